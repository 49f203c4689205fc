import Derived.Test.YbulkkkgFmtMap
import Derived.Deep.AppendLies
namespace Go.Proofs.YbulkkkgFmt
open Go.RowKit Go.Maps Go.WideMaps Go.Extern.Stop Go.Stop Go.Extern

theorem Ybaf.info31 : (Ybaf.prog.info? 31).map (fun i => (i.zero, i.size, i.bytes)) = some (some (.agg #[.string ByteArray.empty, .int .u64 0]), 2, 24) := by kernel_rfl

set_option maxRecDepth 100000 in
theorem agrees_long (av ap : Option Addr) (lv cv lp cp : Nat) (k0 q0 : Int) (ex : Bool) (w : World) (h : 1024 < lp) :
    Calls Ybaf.prog 3 #[.slice av lv cv, .int .u8 k0, .int .u64 q0, .bool ex, .slice ap lp cp] w fun e w' => e = .returned (.bool true) ∧ Below w.heap.size w w' := by
  have t1 : (1024 : Int) < (lp : Int) := by omega
  go_enter Ybaf.func3, Ybaf.ntmps3
  go_wp2
  go_ret
  exact ⟨rfl, Below.refl _ _⟩

/-- The cells of the first j preds, as the law hands them on. -/
def prow (K S : Nat → Int) : Nat → List Value
  | 0 => []
  | j + 1 => prow K S j ++ [.string (nm (K j)), .int .u64 (S j)]
/-- What the law knows behind j preds. -/
def okAt (b0 : Bool) (K S : Nat → Int) (V : ByteArray → Int) : Nat → Bool
  | 0 => b0
  | j + 1 => if V (nm (K j)) < S j then false else okAt b0 K S V j
theorem prow_len (K S : Nat → Int) : ∀ j, (prow K S j).length = j * 2
  | 0 => rfl
  | j + 1 => by
    rw [prow, List.length_append, prow_len K S j]
    simp
    omega
theorem prow_get (K S : Nat → Int) : ∀ j i, i < j → (prow K S j)[i * 2]? = some (.string (nm (K i))) ∧ (prow K S j)[i * 2 + 1]? = some (.int .u64 (S i))
  | 0, i, h => by omega
  | j + 1, i, h => by
    rw [prow]
    by_cases e : i = j
    · subst e
      rw [List.getElem?_append_right (by rw [prow_len]; omega), List.getElem?_append_right (by rw [prow_len]; omega), prow_len, Nat.sub_self, Nat.add_sub_cancel_left]
      exact ⟨rfl, rfl⟩
    · rw [List.getElem?_append_left (by rw [prow_len]; omega), List.getElem?_append_left (by rw [prow_len]; omega)]
      exact prow_get K S j i (by omega)
theorem okAt_iff (b0 : Bool) (K S : Nat → Int) (V : ByteArray → Int) : ∀ j, okAt b0 K S V j = true ↔ b0 = true ∧ heldAll (fun i => nm (K i)) S V j
  | 0 => ⟨fun h => ⟨h, fun i hi => by omega⟩, fun h => h.1⟩
  | j + 1 => by
    rw [okAt]
    have ih := okAt_iff b0 K S V j
    by_cases h : V (nm (K j)) < S j
    · rw [if_pos h]
      refine ⟨fun e => by simp at e, fun ⟨_, hh⟩ => ?_⟩
      have := hh j (by omega)
      simp only at this
      omega
    · rw [if_neg h, ih]
      refine ⟨fun ⟨h1, h2⟩ => ⟨h1, fun i hi => ?_⟩, fun ⟨h1, h2⟩ => ⟨h1, fun i hi => h2 i (by omega)⟩⟩
      by_cases e : i = j
      · subst e
        simp only
        omega
      · exact h2 i (by omega)
theorem pair_one (s : ByteArray) (x : Int) : ∀ u ∈ [Value.string s, .int .u64 x], u.oneCell' = true := by
  intro u hu
  simp at hu
  rcases hu with rfl | rfl <;> rfl
theorem pair_new (w : World) (g : Nat) (hg : g = w.heap.size) (s : ByteArray) (x : Int) (t : TypeId) : ∀ j u, [Value.string s, .int .u64 x][j]? = some u → (w.alloc (.cells #[.string s, .int .u64 x] t)).cell? ((⟨g, 0, none⟩ : Addr).add j) = some u := by
  subst hg
  intro j u hj
  have hadd : (⟨w.heap.size, 0, none⟩ : Addr).add j = ⟨w.heap.size, j, none⟩ := by unfold Addr.add; split <;> simp_all
  rw [hadd, World.cell?_alloc_new]
  simpa using hj

set_option maxRecDepth 100000 in
set_option maxHeartbeats 1600000 in
theorem agrees_any (F : Interp) (av ap : Option Addr) (bv ov lv cv bp op lp cp : Nat) (xs : Nat → Int) (K S : Nat → Int) (k0 q0 : Int) (ex : Bool) (w : World) (hF : F.answers w.tape) (hlp : lp ≤ 1024) (hk0 : 0 ≤ k0 ∧ k0 < 256)
    (hav : 0 < lv → av = some ⟨bv, ov, none⟩ ∧ bv < w.heap.size) (hap : 0 < lp → ap = some ⟨bp, op, none⟩ ∧ bp < w.heap.size)
    (hcv : ∀ j, j < lv → w.cell? ⟨bv, ov + j, none⟩ = some (.int .u64 (xs j)))
    (hck : ∀ j, j < lp → w.cell? ⟨bp, op + j * 2, none⟩ = some (.int .u8 (K j))) (hcs : ∀ j, j < lp → w.cell? ⟨bp, op + j * 2 + 1, none⟩ = some (.int .u64 (S j))) (hK : ∀ j, j < lp → 0 ≤ K j ∧ K j < 256) :
    Calls Ybaf.prog 3 #[.slice av lv cv, .int .u8 k0, .int .u64 q0, .bool ex, .slice ap lp cp] w fun e w' => e = .returned (.bool true) ∧ Below w.heap.size w w' := by
  have HF := hide hF
  have HAV := hide hav
  have HAP := hide hap
  have HCV := hide hcv
  have HCK := hide hck
  have HCS := hide hcs
  have HK := hide hK
  have hmm := @run_makeMap Ybaf.prog
  have t1 : ¬ (1024 : Int) < (lp : Int) := by omega
  clear hF hav hap hcv hck hcs hK
  go_enter Ybaf.func3, Ybaf.ntmps3
  go_wp2
  rename_i K0 hK0
  have hrest : ∀ (u12 u25 u26 u27 u28 u29 u30 u31 u32 u33 u34 u35 u36 u37 u38 u39 u40 u41 u42 : Value) (wc : World) (n : Nat) (D : DataW Value) (V : List UInt8 → Int), Cnt wc w.heap.size n D V → Below w.heap.size w wc → w.heap.size < wc.heap.size →
      K0 { tmps := #[.slice av lv cv, .int .u8 k0, .int .u64 q0, .bool ex, .slice ap lp cp, undef, undef, undef, undef, undef, .bool false, .map (some w.heap.size), u12, undef, undef, undef, undef, undef, undef, undef, undef, .slice ap lp cp, .int .i64 lp, .bool false, .map (some w.heap.size), u25, u26, u27, u28, u29, u30, u31, u32, u33, u34, u35, u36, u37, u38, u39, u40, u41, u42, undef, undef, undef, undef, undef, undef, undef, undef, undef, undef, undef, undef, undef, undef, undef, undef, undef, undef, undef, undef, undef, undef, undef, undef, undef, undef, undef, undef, undef, undef, undef, undef, undef, undef, undef, undef, undef, undef, undef, undef, undef, undef, undef, undef, undef, undef, undef, undef, undef, undef], defers := [] } wc := by
    intro u12 u25 u26 u27 u28 u29 u30 u31 u32 u33 u34 u35 u36 u37 u38 u39 u40 u41 u42 wc n D V hcnt hbc hszc
    refine hK0 _ _ ?_
    clear hK0 hmm
    have hlk := fun (wx : World) (hx : Below wc.heap.size wc wx) (s : ByteArray) (hs : s.size ≤ maxLen) => (hcnt.below hx (Nat.le_refl _)).look s hs
    have HN := hide (name4 k0 wc hk0)
    have hlk0 := hlk wc (Below.refl _ _) (nm k0) (nm_size _)
    have hnsz := nm_size k0
    obtain ⟨n0, hn0⟩ : ∃ n0, n0 = nm k0 := ⟨_, rfl⟩
    rw [← hn0] at HN hlk0 hnsz
    obtain ⟨h0, hh0⟩ : ∃ h0, h0 = V n0.data.toList := ⟨_, rfl⟩
    rw [← hh0] at hlk0
    have HN0 := hide hn0
    have HH0 := hide hh0
    have HLK := hide hlk
    have HCNT := hide hcnt
    have HBC := hide hbc
    have HNSZ := hide hnsz
    clear hn0 hh0 hlk hcnt hbc hnsz
    go_upto_if 46 with (go_at_call 4; refine HN.out.mono ?_; rintro e wq ⟨rfl, hwq⟩; have hwq' := hwq.symm; clear hwq; subst hwq')
    obtain ⟨q, hq⟩ : ∃ q, q = (if ex then IntKind.u64.wrap (h0 + 1) else q0) := ⟨_, rfl⟩
    have HQ := hide hq
    clear hq
    obtain ⟨wm, hwm⟩ : ∃ wm, wm = wc := ⟨_, rfl⟩
    go_cut [14] (fun s wx => s = .int .u64 q ∧ wx = wm)
    case first =>
      cases ex
      · go_wp2
        go_meet
        exact ⟨by rw [HQ.out]; rfl, hwm.symm⟩
      · go_wp2
        go_meet
        exact ⟨by rw [HQ.out]; rfl, hwm.symm⟩
    case rest =>
      obtain ⟨rfl, hwq⟩ := hcut
      have hwq' := hwq.symm
      clear hwq
      subst hwq'
      subst hwm
      obtain ⟨i0, hi, hz0, hz1, hz2⟩ := info_parts Ybaf.info31
      obtain ⟨d, hd⟩ : ∃ d, d = IntKind.u64.wrap (h0 + 1) := ⟨_, rfl⟩
      have hd' := hd.symm
      obtain ⟨b0, hb0⟩ : ∃ b0, b0 = (q == d) := ⟨_, rfl⟩
      have hb0' := hb0.symm
      have HD := hide hd
      have HB0 := hide hb0
      clear hd hb0
      go_upto_region 14 with (at_make; refine wpList_make_own _ rfl _ _ 27 rfl wm.heap.size 31 i0 _ 2 Ybaf.underlying27 hi hz0 hz1 .i64 .i64 _ lp rfl rfl rfl (by rw [hz2]; omega) (by unfold maxLen; omega) (Nat.le_refl _) ?_; intro w1 hown1 hgrow1)
      have hb1 : Below wm.heap.size wm w1 := (Below.refl _ _).grown hgrow1 (Nat.le_refl _) (fun k hk => by cases hk)
      have hs1 := (hown1.lt wm.heap.size rfl).2
      have HB1 := hide hb1
      have HOWN1 := hide hown1
      clear hb1 hown1 hgrow1 hlk0
      go_wp2
      go_loopw [15, 16, 62] (fun o s i wr => ∃ k : Nat, k ≤ lp ∧ i = .int .i64 k ∧ s = .slice (some ⟨wm.heap.size, 0, none⟩) k lp ∧ o = .bool (okAt b0 K S (fun n => V n.data.toList) k) ∧
        wr.ownsRow wm.heap.size 31 2 (.slice (some ⟨wm.heap.size, 0, none⟩) k lp) k (prow K S k) ∧ Below wm.heap.size wm wr ∧ wm.heap.size < wr.heap.size) (fun _ _ i _ => lp - (RowKit.intOf i).toNat)
      case atStart => exact ⟨0, Nat.zero_le _, rfl, rfl, rfl, HOWN1.out, HB1.out, hs1⟩
      case round =>
        obtain ⟨k, hk, rfl, rfl, rfl, hown, hnx, hsz⟩ := hrel
        by_cases hlt : k < lp
        · have t2 : (k : Int) < (lp : Int) := by omega
          obtain ⟨rfl, hbp⟩ := HAP.out (by omega)
          have hbw : Below w.heap.size w wr := HBC.out.trans (hnx.mono HBC.out.size)
          have hck := (hbw.cell (p := ⟨bp, op + k * 2, none⟩) hbp).trans (HCK.out k hlt)
          have hcs := (hbw.cell (p := ⟨bp, op + k * 2 + 1, none⟩) hbp).trans (HCS.out k hlt)
          have hkb := HK.out k hlt
          obtain ⟨kk, hkk⟩ : ∃ kk, kk = K k := ⟨_, rfl⟩
          obtain ⟨ss, hss⟩ : ∃ ss, ss = S k := ⟨_, rfl⟩
          obtain ⟨nn, hnn⟩ : ∃ nn, nn = nm kk := ⟨_, rfl⟩
          have hnsz : nn.size ≤ maxLen := by rw [hnn]; exact nm_size _
          rw [← hkk] at hck hkb
          rw [← hss] at hcs
          have HNK := hide (fun wx => name4 kk wx hkb)
          rw [← hnn] at HNK
          obtain ⟨hh, hhh⟩ : ∃ hh, hh = V nn.data.toList := ⟨_, rfl⟩
          obtain ⟨ob, hob⟩ : ∃ ob, ob = okAt b0 K S (fun n => V n.data.toList) k := ⟨_, rfl⟩
          have HSTEP := hide (show okAt b0 K S (fun n => V n.data.toList) (k + 1) = if hh < ss then false else ob by rw [okAt, hhh, hnn, hkk, hss, hob])
          have HROW := hide (show prow K S (k + 1) = prow K S k ++ [.string nn, .int .u64 ss] by rw [prow, hnn, hkk, hss])
          rw [← hob]
          have HHH := hide hhh
          have HOWN := hide hown
          have HNX := hide hnx
          have HNS := hide hnsz
          have hwz : w.heap.size ≤ wm.heap.size := HBC.out.size
          clear hkk hss hnn hhh hob hown hnx hnsz hbw
          go_upto_region 19 with (first
            | (go_at_call 4; refine (HNK.out _).mono ?_; rintro e wq ⟨rfl, hwq⟩; have hwq' := hwq.symm; clear hwq; subst hwq')
            | (at_builtin; refine wpList_append_fits _ rfl _ _ 27 rfl wm.heap.size 31 i0 2 Ybaf.underlying27 hi hz1 wm.heap.size k lp _ rfl (by exact (HOWN.out.alloc _).alloc _) ⟨wr.heap.size + 1, 0, none⟩ 1 1 [.string nn, .int .u64 ss] rfl rfl (pair_new _ _ (by simp) _ _ _) (pair_one _ _) (by omega) ?_; intro w2 hown2 hgrow2))
          have hb2 : Below wm.heap.size wm w2 := HNX.out.grown (((World.grownBy_alloc wr _ _).trans (World.grownBy_alloc _ _ _)).trans hgrow2) HNX.out.size (fun k hk => by cases hk; exact Nat.le_refl _)
          have hs2 : wm.heap.size < w2.heap.size := by have := hgrow2.size; simp at this; omega
          have hcp : w2.cell? ⟨wr.heap.size, 1, none⟩ = some (.int .u64 ss) := (hgrow2.cell_far ⟨wr.heap.size, 1, none⟩ (by simp; omega) (by simp; omega)).trans (by go_simp)
          have hlk2 := HLK.out w2 hb2 nn HNS.out
          rw [← HHH.out] at hlk2
          rw [← HROW.out] at hown2
          have HOWN2 := hide hown2
          have HB2 := hide hb2
          clear hown2 hb2 hgrow2 hck hcs
          by_cases hts : hh < ss
          · have E := hide (show okAt b0 K S (fun n => V n.data.toList) (k + 1) = false by rw [HSTEP.out, if_pos hts])
            go_wp2
            go_roundw
            case rel => exact ⟨k + 1, by omega, by go_num, rfl, by rw [E.out], HOWN2.out, HB2.out, hs2⟩
            case measure => simp [RowKit.intOf]; omega
          · have E := hide (show okAt b0 K S (fun n => V n.data.toList) (k + 1) = ob by rw [HSTEP.out, if_neg hts])
            go_wp2
            go_roundw
            case rel => exact ⟨k + 1, by omega, by go_num, rfl, by rw [E.out], HOWN2.out, HB2.out, hs2⟩
            case measure => simp [RowKit.intOf]; omega
        · have : k = lp := by omega
          subst this
          have hFr : F.answers wr.tape := by
            rw [hnx.tape, HBC.out.tape]
            exact HF.out
          have HNEXT := hide (next5_any F w.heap.size wm.heap.size k k n0 q (fun i => nm (K i)) S (fun n => V n.data.toList) wr hFr hlp (fun _ => hsz) HNSZ.out (fun i => nm_size _)
            (fun n' w' hn' hw' => HLK.out w' (hnx.trans (hw'.mono hnx.size)) n' hn')
            (fun i hi => by rw [hown.cellAt (i * 2) (by omega)]; exact (prow_get K S k i hi).1)
            (fun i hi => by rw [hown.cellAt (i * 2 + 1) (by omega)]; exact (prow_get K S k i hi).2))
          obtain ⟨ob, hob⟩ : ∃ ob, ob = okAt b0 K S (fun n => V n.data.toList) k := ⟨_, rfl⟩
          have HIFF := hide (show ob = true ↔ (q = IntKind.u64.wrap (V n0.data.toList + 1) ∧ heldAll (fun i => nm (K i)) S (fun n => V n.data.toList) k) by
            rw [hob, okAt_iff, HB0.out, HD.out, HH0.out]
            simp)
          rw [← hob]
          have HNX := hide hnx
          clear hob hnx hown hFr
          go_upto_region 23 with (go_at_call 5; refine HNEXT.out.mono ?_; rintro e wq ⟨⟨v, rfl, hv⟩, hq⟩)
          have hbq : Below w.heap.size w wq := (HBC.out.trans (HNX.out.mono HBC.out.size)).trans (hq.mono (by have := HNX.out.size; have := HBC.out.size; omega))
          rcases hv with ⟨hp, rfl⟩ | ⟨hp, a, rfl⟩
          · have hob : ob = true := HIFF.out.2 hp
            subst hob
            have HBQ := hide hbq
            clear hp hq hbq
            go_wp2
            go_ret
            exact ⟨rfl, HBQ.out⟩
          · have hob : ob = false := by
              cases h : ob
              · rfl
              · exact absurd (HIFF.out.1 h) hp
            subst hob
            have HBQ := hide hbq
            clear hp hq hbq
            go_wp2
            go_ret
            exact ⟨rfl, HBQ.out⟩
  have HREST := hide hrest
  clear hrest hK0
  go_loopw [12] (fun i wr => ∃ j n D V, j ≤ lv ∧ j ≤ 3 ∧ n ≤ j ∧ i = .int .i64 (j : Nat) ∧ Cnt wr w.heap.size n D V ∧ Below w.heap.size w wr ∧ w.heap.size < wr.heap.size) (fun i _ => lv - (RowKit.intOf i).toNat)
  case atStart => exact ⟨0, 0, _, _, Nat.zero_le _, Nat.zero_le _, Nat.le_refl _, rfl, Cnt.made w, (Below.refl _ _).alloc (Nat.le_refl _) _, by simp⟩
  case round =>
    obtain ⟨j, n, D, V, hj, hj3, hn, rfl, hcnt, hnx, hsz⟩ := hrel
    by_cases hlt : j < lv
    · have t2 : (j : Int) < (lv : Int) := by omega
      by_cases hlt3 : j < 3
      · have t3 : (j : Int) < 3 := by omega
        obtain ⟨rfl, hbv⟩ := HAV.out (by omega)
        have hcx := (hnx.cell (p := ⟨bv, ov + j, none⟩) hbv).trans (HCV.out j hlt)
        obtain ⟨x, hx⟩ : ∃ x, x = xs j := ⟨_, rfl⟩
        rw [← hx] at hcx
        obtain ⟨w2, D2, V2, hrun2, hcnt2, hg2⟩ := (hcnt.below (w' := wr.drew) ((Below.refl wr.heap.size wr).drew) (Nat.le_refl _)).put (nm j) x (nm_size _) (by unfold maxLen; omega)
        have hb2 : Below w.heap.size w w2 := hnx.drew.grown hg2 hnx.size (fun k hk => by cases hk; exact Nat.le_refl _)
        have hs2 : w.heap.size < w2.heap.size := Nat.lt_of_lt_of_le hsz hg2.size
        have hcx2 := (hb2.cell (p := ⟨bv, ov + j, none⟩) hbv).trans (HCV.out j hlt)
        rw [← hx] at hcx2
        have hwj : IntKind.u8.wrap (j : Int) = (j : Int) := by simp [IntKind.wrap, IntKind.signed, IntKind.bits]; omega
        have HN := hide (fun wx => name4 (j : Int) wx (by omega))
        obtain ⟨nn, hnn⟩ : ∃ nn, nn = nm (j : Int) := ⟨_, rfl⟩
        rw [← hnn] at HN hrun2
        have HN' := hide (fun wx => (show Calls Ybaf.prog 4 #[.int .u8 (IntKind.u8.wrap (j : Int))] wx fun e w' => e = .returned (.string nn) ∧ w' = wx by rw [hwj]; exact HN.out wx))
        clear hnn hwj HN
        have HCNT2 := hide hcnt2
        have HB2 := hide hb2
        clear hcnt2 hb2 hg2 hcnt hnx hx
        go_wp2
        go_region_held_law (fun w' => w'.cell? ⟨bv, ov + j, none⟩ = some (.int .u64 x)) (first | exact hcx | exact hcx2)
          ((go_at_call 4
            refine (HN'.out _).mono ?_
            rintro e wq ⟨rfl, rfl⟩))
        clear hcx hcx2 hrun2
        go_wp2
        go_roundw
        case rel => exact ⟨j + 1, n + 1, D2, V2, by omega, by omega, by omega, by go_num, HCNT2.out, HB2.out, hs2⟩
        case measure => simp [RowKit.intOf]; omega
      · have t3 : ¬ (j : Int) < 3 := by omega
        have HC := hide hcnt
        have HB := hide hnx
        clear hcnt hnx
        go_wp2
        exact HREST.out _ _ _ _ _ _ _ _ _ _ _ _ _ _ _ _ _ _ _ _ _ _ _ HC.out HB.out hsz
    · have t2 : ¬ (j : Int) < (lv : Int) := by omega
      have HC := hide hcnt
      have HB := hide hnx
      clear hcnt hnx
      go_wp2
      exact HREST.out _ _ _ _ _ _ _ _ _ _ _ _ _ _ _ _ _ _ _ _ _ _ _ HC.out HB.out hsz

end Go.Proofs.YbulkkkgFmt
