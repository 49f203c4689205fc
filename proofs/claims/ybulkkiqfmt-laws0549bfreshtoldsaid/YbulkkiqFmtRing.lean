-- MINE
import Derived.Test.YbulkkiqFmtSort
namespace Go.Proofs.YbulkkiqFmt
open Go.RowKit Go.MuLone Go.Shelf
open Go.Extern.Stop (cell)
set_option maxRecDepth 100000
set_option linter.unusedSimpArgs false
set_option linter.unusedVariables false

/-- n new nodes in memory. -/
structure Ring (w : World) (n : Nat) (bs gs : Nat → Nat) (xs : Nat → UInt8) (st fi ru : Nat → Value) (r : Int) (hb : Nat) : Prop where
  node : ∀ i, i < n → w.heap[bs i]? = some (.cells (nodeF (xs i) r hb (st i) (.int .i32 0) (.slice (some ⟨gs i, 0, none⟩) 1 1) (fi i) (ru i) 0).toArray 60 (0, 0))
  succ : ∀ i, i < n → w.heap[gs i]? = some (.cells (peerC (xs i)).toArray 54 (0, 0))
  injb : ∀ i j, i < n → j < n → bs i = bs j → i = j
  injx : ∀ i j, i < n → j < n → xs i = xs j → i = j

section
variable {w w' W1 wr : World} {n : Nat} {bs gs : Nat → Nat} {xs : Nat → UInt8} {st fi ru : Nat → Value} {r : Int} {hb mg : Nat} {cur : Array Value}

theorem Ring.mgb (h : Ring w n bs gs xs st fi ru r hb) (hM : w.heap[mg]? = some (.cells cur 51 (0, 0))) (i : Nat) (hi : i < n) : bs i ≠ mg := fun e => by
  have := h.node i hi
  rw [e, hM] at this
  simp at this
theorem Ring.mgg (h : Ring w n bs gs xs st fi ru r hb) (hM : w.heap[mg]? = some (.cells cur 51 (0, 0))) (i : Nat) (hi : i < n) : gs i ≠ mg := fun e => by
  have := h.succ i hi
  rw [e, hM] at this
  simp at this
theorem Ring.bg (h : Ring w n bs gs xs st fi ru r hb) (i j : Nat) (hi : i < n) (hj : j < n) : gs i ≠ bs j := fun e => by
  have h1 := h.succ i hi
  have h2 := h.node j hj
  rw [e, h2] at h1
  simp at h1
theorem Ring.blt (h : Ring w n bs gs xs st fi ru r hb) (i : Nat) (hi : i < n) : bs i < w.heap.size := (Array.getElem?_eq_some_iff.1 (h.node i hi)).1
theorem Ring.glt (h : Ring w n bs gs xs st fi ru r hb) (i : Nat) (hi : i < n) : gs i < w.heap.size := (Array.getElem?_eq_some_iff.1 (h.succ i hi)).1
theorem Ring.perm (h : Ring w n bs gs xs st fi ru r hb) (hM : w.heap[mg]? = some (.cells cur 51 (0, 0))) (hg : w.grownBy w' (some mg)) (σ : Nat → Nat) (h1 : ∀ j, j < n → σ j < n) (h2 : ∀ i j, i < n → j < n → σ i = σ j → i = j) :
    Ring w' n (fun j => bs (σ j)) (fun j => gs (σ j)) (fun j => xs (σ j)) (fun j => st (σ j)) (fun j => fi (σ j)) (fun j => ru (σ j)) r hb where
  node i hi := (hg.block _ (h.blt _ (h1 i hi)) (fun e => h.mgb hM _ (h1 i hi) (by simpa using e))).trans (h.node _ (h1 i hi))
  succ i hi := (hg.block _ (h.glt _ (h1 i hi)) (fun e => h.mgg hM _ (h1 i hi) (by simpa using e))).trans (h.succ _ (h1 i hi))
  injb i j hi hj e := h2 i j hi hj (h.injb _ _ (h1 i hi) (h1 j hj) e)
  injx i j hi hj e := h2 i j hi hj (h.injx _ _ (h1 i hi) (h1 j hj) e)

/-- What stands in memory after k rounds of formRing. -/
structure RingK (W1 wr : World) (n : Nat) (bs : Nat → Nat) (xs : Nat → UInt8) (st fi ru : Nat → Value) (r : Int) (hb k : Nat) : Prop where
  done : ∀ j, j < n → j < k → ∃ su, wr.heap[bs j]? = some (.cells (nodeF (xs j) r hb (st j) (.int .i32 0) su (fi j) (ru j) 1).toArray 60 (0, 0))
  todo : ∀ j, j < n → k ≤ j → wr.heap[bs j]? = W1.heap[bs j]?
  rest : ∀ b, b < W1.heap.size → (∀ j, j < n → b ≠ bs j) → wr.heap[b]? = W1.heap[b]?
  os : wr.os = W1.os
  tape : wr.tape = W1.tape
  output : wr.output = W1.output
  size : W1.heap.size ≤ wr.heap.size

theorem RingK.start (W1 : World) : RingK W1 W1 n bs xs st fi ru r hb 0 := ⟨fun _ _ h => by omega, fun _ _ _ => rfl, fun _ _ _ => rfl, rfl, rfl, rfl, Nat.le_refl _⟩
theorem RingK.peer (hR : Ring W1 n bs gs xs st fi ru r hb) {k : Nat} (h : RingK W1 wr n bs xs st fi ru r hb k) (j : Nat) (hj : j < n) : wr.rangeAt (bs j) 0 (peerC (xs j)) := by
  by_cases hk : j < k
  · obtain ⟨su, e⟩ := h.done j hj hk
    exact node_peer e
  · exact node_peer ((h.todo j hj (by omega)).trans (hR.node j hj))
theorem RingK.step (hR : Ring W1 n bs gs xs st fi ru r hb) {k : Nat} (h : RingK W1 wr n bs xs st fi ru r hb k) (hk : k < n) {wi w2 : World} (hb1 : Below wr.heap.size wr wi) (hg : wi.grownBy w2 (some (bs k)))
    (hn : ∃ su, w2.heap[bs k]? = some (.cells (nodeF (xs k) r hb (st k) (.int .i32 0) su (fi k) (ru k) 1).toArray 60 (0, 0))) : RingK W1 w2 n bs xs st fi ru r hb (k + 1) := by
  have hs1 := hb1.size
  have hs2 := h.size
  have hold : ∀ b, b < wr.heap.size → b ≠ bs k → w2.heap[b]? = wr.heap[b]? := fun b hb' hne => (hg.block b (by omega) (fun e => hne (by simpa using e))).trans (hb1.block b hb')
  refine ⟨fun j hj hjk => ?_, fun j hj hjk => ?_, fun b hb' hne => ?_, ?_, ?_, ?_, ?_⟩
  · by_cases e : j = k
    · subst e
      exact hn
    · obtain ⟨su, es⟩ := h.done j hj (by omega)
      refine ⟨su, (hold _ ?_ (fun e' => e (hR.injb _ _ hj hk e'))).trans es⟩
      have := hR.blt j hj
      omega
  · rw [hold _ (by have := hR.blt j hj; omega) (fun e' => by have := hR.injb _ _ hj hk e'; omega)]
    exact h.todo j hj (by omega)
  · rw [hold _ (by omega) (hne k hk)]
    exact h.rest b hb' hne
  · exact hg.os.trans (hb1.os.trans h.os)
  · exact hg.tape.trans (hb1.tape.trans h.tape)
  · exact hg.output.trans (hb1.output.trans h.output)
  · have := hg.size
    omega
end

/-- The members after place k. -/
def aft (xs : Nat → UInt8) (n k s : Nat) : List UInt8 := (List.range s).map fun a => xs ((k + 1 + a) % n)
theorem aft_len (xs : Nat → UInt8) (n k s : Nat) : (aft xs n k s).length = s := by simp [aft]
theorem aft_succ (xs : Nat → UInt8) (n k s : Nat) : aft xs n k (s + 1) = aft xs n k s ++ [xs ((k + 1 + s) % n)] := by simp [aft, List.range_succ]
theorem aft_get (xs : Nat → UInt8) (n k s a : Nat) (h : a < s) : (aft xs n k s)[a]! = xs ((k + 1 + a) % n) := by
  rw [getElem!_pos _ a (by rw [aft_len]; exact h)]
  simp [aft]

/-- A node in memory: its lock is free, its count is c. -/
def IsNode (w : World) (b : Nat) (c : Int) : Prop :=
  w.cell? ⟨b, 27, none⟩ = some (.int .i32 0) ∧ w.frozen? ⟨b, 27, none⟩ = false ∧ w.cell? ⟨b, 54, none⟩ = some (.int .u64 c)
theorem isNode_of {w : World} {b : Nat} {x : UInt8} {r : Int} {hb : Nat} {st su fi ru : Value} {ch : Int} (h : w.heap[b]? = some (.cells (nodeF x r hb st (.int .i32 0) su fi ru ch).toArray 60 (0, 0))) : IsNode w b ch :=
  ⟨node_at h 27 _ rfl, node_free h 27, node_at h 54 _ rfl⟩

set_option maxHeartbeats 12800000 in
theorem form10 (n : Nat) (hn : 1 < n) (hn16 : n ≤ 16) (bs gs : Nat → Nat) (xs : Nat → UInt8) (st fi ru : Nat → Value) (r : Int) (hb : Nat) (mg cap : Nat) (cur : Array Value) (w : World)
    (hR : Ring w n bs gs xs st fi ru r hb) (hM : w.heap[mg]? = some (.cells cur 51 (0, 0))) (hc : ∀ j, j < n → cur[j]? = some (.pointer (some ⟨bs j, 0, none⟩))) :
    Calls Ybaf.prog 10 #[.slice (some ⟨mg, 0, none⟩) n cap] w fun e w' => e = .returned (.tuple #[]) ∧
      (∀ i, i < n → IsNode w' (bs i) 1) ∧
      (∀ b, b < w.heap.size → b ≠ mg → (∀ i, i < n → b ≠ bs i) → w'.heap[b]? = w.heap[b]?) ∧ w'.os = w.os ∧ w'.tape = w.tape ∧ w'.output = w.output ∧ w.heap.size ≤ w'.heap.size := by
  have HSORT := hide (sort15 n (by omega) hn16 bs xs mg cap cur w hM hc (hR.mgb hM) (fun j hj => node_peer (hR.node j hj)))
  have HR := hide hR
  have HM := hide hM
  have hmg : mg < w.heap.size := (Array.getElem?_eq_some_iff.1 hM).1
  clear hR hM hc
  go_enter Ybaf.func10, Ybaf.ntmps10
  go_upto_region 1 with (go_at_call 15; refine HSORT.out.mono ?_; rintro e w1 ⟨rfl, σ, s1, s2, s3, scell, sgrow⟩)
  have HRR := hide (HR.out.perm HM.out sgrow σ s1 s2)
  obtain ⟨bb, ebb⟩ : ∃ bb : Nat → Nat, bb = fun j => bs (σ j) := ⟨_, rfl⟩
  obtain ⟨gg, egg⟩ : ∃ gg : Nat → Nat, gg = fun j => gs (σ j) := ⟨_, rfl⟩
  obtain ⟨xx, exx⟩ : ∃ xx : Nat → UInt8, xx = fun j => xs (σ j) := ⟨_, rfl⟩
  rw [← ebb, ← egg, ← exx] at HRR
  have HCELL : Hid (∀ j, j < n → w1.cell? ⟨mg, j, none⟩ = some (.pointer (some ⟨bb j, 0, none⟩))) := fun j hj => by rw [ebb]; exact scell j hj
  have HS3 : Hid (∀ i, i < n → ∃ j, j < n ∧ bb j = bs i) := fun i hi => by
    obtain ⟨j, hj, e⟩ := s3 i hi
    exact ⟨j, hj, by rw [ebb]; exact congrArg bs e⟩
  have HBI : Hid (∀ j, j < n → ∃ i, i < n ∧ bb j = bs i) := fun j hj => ⟨σ j, s1 j hj, by rw [ebb]⟩
  have HGROW := hide sgrow
  have hM1 : mg < w1.heap.size := Nat.lt_of_lt_of_le hmg sgrow.size
  have HMB : Hid (∀ j, j < n → mg ≠ bb j) := fun j hj e => by
    rw [ebb] at e
    exact HR.out.mgb HM.out _ (s1 j hj) e.symm
  generalize (fun j => st (σ j)) = ss at HRR
  generalize (fun j => fi (σ j)) = ff at HRR
  generalize (fun j => ru (σ j)) = rr at HRR
  clear ebb egg exx scell sgrow s1 s2 s3 HSORT HR HM
  have hn0 : (1 : Int) < (n : Int) := by omega
  go_wp2
  go_loopw [10] (fun i wr => ∃ k : Nat, k ≤ n ∧ i = .int .i64 k ∧ RingK w1 wr n bb xx ss ff rr r hb k) (fun i _ => n - (intOf i).toNat)
  case atStart => exact ⟨0, Nat.zero_le _, rfl, RingK.start _⟩
  case round =>
    obtain ⟨k, hk, rfl, hring⟩ := hrel
    obtain ⟨wo, ewo⟩ : ∃ wo, wo = wr := ⟨_, rfl⟩
    subst ewo
    have HRING := hide hring
    clear hring
    by_cases hlt : k < n
    · have t1 : (k : Int) < (n : Int) := by omega
      have hck : wo.cell? ⟨mg, k, none⟩ = some (.pointer (some ⟨bb k, 0, none⟩)) := (World.cell?_of_block (w := w1) (HRING.out.rest mg hM1 HMB.out)).trans (HCELL.out k hlt)
      go_upto_region 5 with fail
      obtain ⟨i4, z4, hi4, hz40, hz41, hz42, hz4c⟩ := parts54
      go_wp2
      go_loopw [4, 5] (fun v i wi => ∃ s : Nat, s + 1 ≤ n ∧ i = .int .i64 ((s + 1 : Nat) : Int) ∧ wi.ownsRow wo.heap.size 54 22 v s (rowP (aft xx n k s)) ∧ Below wo.heap.size wo wi) (fun _ i _ => n - (intOf i).toNat)
      case atStart => exact ⟨0, by omega, rfl, World.ownsRow_nil _ _ _ _, Below.refl _ _⟩
      case round =>
        obtain ⟨s, hs, rfl, hown, hbel⟩ := hrel
        have HOWN := hide hown
        have HBEL := hide hbel
        clear hown hbel
        by_cases hlt2 : s + 1 < n
        · have t2 : ((s + 1 : Nat) : Int) < (n : Int) := by omega
          obtain ⟨q, hq⟩ : ∃ q, q = (k + 1 + s) % n := ⟨_, rfl⟩
          have hqn : q < n := by rw [hq]; exact Nat.mod_lt _ (by omega)
          have hqn1 : (q : Int) < (n : Int) := by omega
          have hqi : ((k : Int) + ((s : Int) + 1)) % (n : Int) = (q : Int) := by
            rw [hq, show k + 1 + s = k + (s + 1) by omega]
            push_cast
            rfl
          have t3 : (s : Int) + 1 < (n : Int) := by omega
          have hbb := HRR.out.blt q hqn
          have hzo := HRING.out.size
          have hcq : wr.cell? ⟨mg, q, none⟩ = some (.pointer (some ⟨bb q, 0, none⟩)) := (HBEL.out.cell (p := ⟨mg, q, none⟩) (by show mg < _; omega)).trans ((World.cell?_of_block (w := w1) (HRING.out.rest mg hM1 HMB.out)).trans (HCELL.out q hqn))
          obtain ⟨z, hz⟩ : ∃ z, z = xx q := ⟨_, rfl⟩
          have HPQ : Hid (wr.rangeAt (bb q) 0 (peerC z)) := by rw [hz]; exact range_of_below (RingK.peer HRR.out HRING.out q hqn) HBEL.out (by omega)
          have HI54 := hide (show (Ybaf.prog.info? 54).map (·.size) = some (peerC z).length by rw [info54, peerC_len])
          have HQ := hide hq
          have HZ := hide hz
          clear hq hz
          go_wp2_with (first
            | (refine wpList_load_mid rfl 54 _ rfl (bb q) 0 rfl (peerC z) _ HPQ.out Ybaf.underlying54 rfl HI54.out ?_)
            | (refine wpList_bslice1 rfl 58 1 0 _ rfl (.agg (peerC z).toArray) rfl _ (bslice58 z _) ?_)
            | (at_builtin; refine wpList_append_lies _ rfl _ _ 58 rfl wo.heap.size 54 i4 z4 22 40 Ybaf.underlying58 hi4 hz40 hz41 hz42 hz4c (by decide) u4 s _ rfl (HOWN.out.alloc _) ⟨wr.heap.size, 0, none⟩ 1 1 (peerC z) rfl (by rw [peerC_len]) (cells_new wr _ rfl (peerC z) 54) (peerC_one z) (by decide) (by unfold maxLen; omega) (by omega) (by have := HBEL.out.size; rw [World.size_alloc]; omega) _ rfl ?_; intro g6 cp6 w6 hown6 hgrow6 _ hg6))
          have hb6 : Below wo.heap.size wo w6 := (HBEL.out.alloc HBEL.out.size _).grown hgrow6 (by have := HBEL.out.size; rw [World.size_alloc]; omega) (fun kk hkk => (HOWN.out.lt kk hkk).1)
          have HOW6 : Hid (w6.ownsRow wo.heap.size 54 22 (.slice (some ⟨g6, 0, none⟩) (s + 1) cp6) (s + 1) (rowP (aft xx n k (s + 1)))) := by
            rw [aft_succ, rowP_snoc, ← HQ.out, ← HZ.out]
            exact hown6
          have HB6 := hide hb6
          clear hown6 hgrow6 hb6
          go_wp2
          go_roundw
          case rel => exact ⟨s + 1, by omega, by go_num, HOW6.out, HB6.out⟩
          case measure => simp [intOf]; omega
        · have t3 : ¬ ((s : Int) + 1 < (n : Int)) := by omega
          have hs1 : (1 : Int) ≤ (s : Int) := by omega
          have hs2 : (0 : Int) < (s : Int) := by omega
          have hs3 : 0 < s := by omega
          have hs4 : 1 ≤ s := by omega
          obtain ⟨g, cp, rfl, hg1, hg2⟩ := HOWN.out.form (by omega)
          have hcp : s ≤ cp := by
            rcases HOWN.out.2 with ⟨hv, _⟩ | ⟨g', cp', cur', hv, _, _, h1, _⟩
            · simp at hv
            · simp at hv
              omega
          have HCE : Hid (∀ p u, (rowP (aft xx n k s))[p]? = some u → wr.cell? ⟨g, p, none⟩ = some u) := fun p u hu => by
            have hp : p < (rowP (aft xx n k s)).length := (List.getElem?_eq_some_iff.1 hu).1
            rw [rowP_len, aft_len] at hp
            rw [HOWN.out.cellAt p hp]
            exact hu
          have HROW : Hid (∀ a, a < s → wr.rangeAt g (a * 22) (peerC (xx ((k + 1 + a) % n)))) := fun a ha p v hv => by
            refine HCE.out _ _ ?_
            have hp : p < 22 := by have := (List.getElem?_eq_some_iff.1 hv).1; rw [peerC_len] at this; exact this
            rw [rowP_get _ a p (by rw [aft_len]; exact ha) hp, aft_get _ _ _ _ _ ha]
            exact hv
          obtain ⟨y, hy⟩ : ∃ y, y = xx ((k + 1) % n) := ⟨_, rfl⟩
          have hq : (k + 1) % n < n := Nat.mod_lt _ (by omega)
          have hqk : (k + 1) % n ≠ k := fun e => by
            by_cases h1 : k + 1 < n
            · rw [Nat.mod_eq_of_lt h1] at e
              omega
            · have : k + 1 = n := by omega
              rw [this, Nat.mod_self] at e
              omega
          have HYX : Hid (y ≠ xx k) := fun e => by
            rw [hy] at e
            exact hqk (HRR.out.injx _ _ hq hlt e)
          have HY0 : Hid (wr.rangeAt g 0 (peerC y)) := by
            have := HROW.out 0 (by omega)
            rw [Nat.zero_mul] at this
            rw [hy]
            exact this
          have HI54 := hide (show (Ybaf.prog.info? 54).map (·.size) = some (peerC y).length by rw [info54, peerC_len])
          have hzo := HRING.out.size
          have hbk := HRR.out.blt k hlt
          have hgk := HRR.out.glt k hlt
          have HN : Hid (wr.heap[bb k]? = _) := (HBEL.out.block (bb k) (by omega)).trans ((HRING.out.todo k hlt (Nat.le_refl _)).trans (HRR.out.node k hlt))
          have HG : Hid (wr.heap[gg k]? = _) := (HBEL.out.block (gg k) (by omega)).trans ((HRING.out.rest (gg k) hgk (fun j hj e => HRR.out.bg k j hlt hj e)).trans (HRR.out.succ k hlt))
          have HC := hide (set18 (bb k) (xx k) r hb (ss k) (ff k) (rr k) (gg k) y (if cp = 1 then some ⟨g, 0, none⟩ else some ⟨g, 22, none⟩) g 22 (s - 1) (cp - 1) (fun a => xx ((k + 1 + (a + 1)) % n)) wr.drew HN.out HG.out HYX.out (by omega) (fun hh => ⟨if_neg (by omega), hg2⟩) (fun a ha => by
            have := HROW.out (a + 1) (by omega)
            rw [show (a + 1) * 22 = 22 + a * 22 by omega] at this
            exact this))
          have hgne : g ≠ bb k := by omega
          clear hy hq hqk
          go_upto_region 9 with fail
          refine wp_region_held_drew (S := fun wx => wx.rangeAt g 0 (peerC y)) (by kernel_rfl) HY0.out (fun hHeld => ?_)
          refine wpAnyH_take (i := 0) (oi := _) (v := ?_) rfl (by kernel_rfl) (by kernel_rfl) (by kernel_rfl) (fun _ _ _ h => h) (Or.inl ⟨by rfl, ?_⟩) (by assumption) ?_
          rotate_left
          · intro w hSw
            (try dsimp only at hSw)
            go_simp
            (try with_reducible rfl)
          (try simp only [List.getElem_toArray, List.getElem_cons_succ, List.getElem_cons_zero, Act.put, List.setIfInBounds_toArray, List.set_cons_zero, List.set_cons_succ])
          refine wpAnyH_take (i := 1) (oi := _) (v := ?_) rfl (by kernel_rfl) (by kernel_rfl) (by kernel_rfl) (fun _ _ _ h => h) (Or.inl ⟨by rfl, ?_⟩) (by assumption) ?_
          rotate_left
          · intro w hSw
            (try dsimp only at hSw)
            go_simp
            (try with_reducible rfl)
          (try simp only [List.getElem_toArray, List.getElem_cons_succ, List.getElem_cons_zero, Act.put, List.setIfInBounds_toArray, List.set_cons_zero, List.set_cons_succ])
          refine wpAnyH_take (i := 2) (oi := _) (v := ?_) rfl (by kernel_rfl) (by kernel_rfl) (by kernel_rfl) (fun _ _ _ h => h) (Or.inl ⟨by rfl, ?_⟩) (by assumption) ?_
          rotate_left
          · intro w hSw
            (try dsimp only at hSw)
            go_simp
            (try with_reducible rfl)
          (try simp only [List.getElem_toArray, List.getElem_cons_succ, List.getElem_cons_zero, Act.put, List.setIfInBounds_toArray, List.set_cons_zero, List.set_cons_succ])
          refine wpAnyH_take (i := 3) (oi := _) (v := .agg (peerC y).toArray) rfl (by kernel_rfl) (by kernel_rfl) (by kernel_rfl) (fun _ _ _ h => h) (yieldsIf_load_mid (by rfl) 54 _ rfl g 0 rfl (peerC y) _ (fun w h => h) Ybaf.underlying54 rfl HI54.out) (by assumption) ?_
          (try simp only [List.getElem_toArray, List.getElem_cons_succ, List.getElem_cons_zero, Act.put, List.setIfInBounds_toArray, List.set_cons_zero, List.set_cons_succ])
          refine wpAnyH_take (i := 4) (oi := _) (v := ?_) rfl (by kernel_rfl) (by kernel_rfl) (by kernel_rfl) (fun _ _ _ h => h) (Or.inl ⟨by rfl, ?_⟩) (by assumption) ?_
          rotate_left
          · intro w hSw
            (try dsimp only at hSw)
            go_simp
            (try with_reducible rfl)
          (try simp only [List.getElem_toArray, List.getElem_cons_succ, List.getElem_cons_zero, Act.put, List.setIfInBounds_toArray, List.set_cons_zero, List.set_cons_succ])
          refine wpAnyH_take (i := 5) (oi := _) (v := ?_) rfl (by kernel_rfl) (by kernel_rfl) (by kernel_rfl) (fun _ _ _ h => h) (Or.inl ⟨by rfl, ?_⟩) (by assumption) ?_
          rotate_left
          · intro w hSw
            (try dsimp only at hSw)
            go_simp
            (try with_reducible rfl)
          (try simp only [List.getElem_toArray, List.getElem_cons_succ, List.getElem_cons_zero, Act.put, List.setIfInBounds_toArray, List.set_cons_zero, List.set_cons_succ])
          generalize (if cp = 1 then some (⟨g, 0, none⟩ : Addr) else some ⟨g, 22, none⟩) = ra at HC ⊢
          refine wpAnyH_ready (rs := [6]) (by kernel_rfl) (by simp) ?_
          refine AllReadyH.cons rfl (fun K hK => ?_) AllReadyH.nil
          go_simp
          go_wp2_with (go_at_call 18; refine HC.out.mono ?_; rintro e w2 ⟨rfl, hsu, hgr2⟩)
          have hR2 : w2.rangeAt g 0 (peerC y) := fun p v hv => (hgr2.cell_far ⟨g, 0 + p, none⟩ hg2 (fun e => hgne (by simpa using e))).trans (HY0.out p v hv)
          refine hK.out _ _ hR2 (fun hHeld => ?_)
          clear hK K
          refine wpAnyH_done (by kernel_rfl) ?_ _
          have HST := hide (RingK.step HRR.out HRING.out hlt HBEL.out.drew hgr2 hsu)
          clear hsu hgr2 hR2 hHeld
          go_wp2
          go_roundw
          case rel => exact ⟨k + 1, by omega, by go_num, HST.out⟩
          case measure => simp [intOf]; omega
    · have t1 : ¬ (k : Int) < (n : Int) := by omega
      have : k = n := by omega
      subst this
      go_wp2
      go_end0
      have hrg := HRING.out
      have hgr := HGROW.out
      refine ⟨rfl, fun i hi => ?_, fun b hb' hbm hbn => ?_, ?_, ?_, ?_, ?_⟩
      · obtain ⟨j, hj, e⟩ := HS3.out i hi
        obtain ⟨su, es⟩ := hrg.done j hj hj
        rw [e] at es
        exact isNode_of es
      · rw [hrg.rest b (Nat.lt_of_lt_of_le hb' hgr.size) (fun j hj e => by
          obtain ⟨i, hi, ei⟩ := HBI.out j hj
          exact hbn i hi (e.trans ei))]
        exact hgr.block b hb' (fun e => hbm (by simpa using e))
      · exact hrg.os.trans hgr.os
      · exact hrg.tape.trans hgr.tape
      · exact hrg.output.trans hgr.output
      · exact Nat.le_trans hgr.size hrg.size
end Go.Proofs.YbulkkiqFmt
