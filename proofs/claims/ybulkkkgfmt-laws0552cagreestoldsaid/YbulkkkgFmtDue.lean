import Derived.Test.YbulkkkgFmtFacts
import Derived.WalkLawsBesides
import Derived.Deep.QuietTactic
import Derived.BigQuiet
import Derived.OwnWalk
import Derived.Deep.DeepCutAuto
namespace Go.Proofs.YbulkkkgFmt
open Go.RowKit Go.Extern.Stop Go.Stop Go.Extern

theorem hide {p : Prop} (h : p) : Hid p := h

set_option maxHeartbeats 800000 in
theorem string11 (F : Interp) (n : ByteArray) (q : Int) (w : World) (hF : F.answers w.tape) :
    Calls Ybaf.prog 11 #[.agg #[.string n, .int .u64 q]] w fun e w' => (∃ s, e = .returned (.string s)) ∧ Below w.heap.size w w' := by
  have hF' := answers_open hF
  go_enter Ybaf.func11, Ybaf.ntmps11
  go_wp2
  go_ret
  exact ⟨⟨_, rfl⟩, (((Below.refl _ _).alloc (Nat.le_refl _) _).alloc (by simp) _).drew⟩

set_option maxHeartbeats 800000 in
theorem due8_ok (n : ByteArray) (q held : Int) (w : World) (hq : q = IntKind.u64.wrap (held + 1)) :
    Calls Ybaf.prog 8 #[.int .u64 held, .agg #[.string n, .int .u64 q]] w fun e w' => e = .returned .nilIface ∧ Below w.heap.size w w' := by
  subst hq
  go_enter Ybaf.func8, Ybaf.ntmps8
  go_wp2
  go_ret
  exact ⟨rfl, ((Below.refl _ _).alloc (Nat.le_refl _) _)⟩

set_option maxHeartbeats 1600000 in
theorem due8_bad (F : Interp) (n : ByteArray) (q held : Int) (w : World) (hF : F.answers w.tape) (hq : q ≠ IntKind.u64.wrap (held + 1)) :
    Calls Ybaf.prog 8 #[.int .u64 held, .agg #[.string n, .int .u64 q]] w fun e w' => (∃ a, e = .returned (.iface 42 (.pointer (some a)))) ∧ Below w.heap.size w w' := by
  have hF' := answers_open hF
  obtain ⟨d, hd⟩ : ∃ d, d = IntKind.u64.wrap (held + 1) := ⟨_, rfl⟩
  rw [← hd] at hq
  have hq1 : (q != d) = true := by simpa using hq
  have HQ := hide hq
  clear hq
  have hd' := hd.symm
  have HD := hide hd
  clear hd
  go_enter Ybaf.func8, Ybaf.ntmps8
  go_wp2
  apply rows_call Ybaf.nextTurns
  case hr =>
    go_simp
    exact ⟨⟨rfl, rfl, rfl⟩, rfl⟩
  case hi => exact Ybaf.invokeString31 _ _
  case hc =>
    refine (string11 F n q _ (by exact hF)).mono fun e w₃ ⟨⟨s, he⟩, hx⟩ => ?_
    subst he
    have hF3 := answers_open (show F.answers w₃.tape by rw [hx.tape]; exact hF)
    have hc0 : w₃.cell? ⟨w.heap.size + 1, 0, none⟩ = some (.iface 31 (.agg #[.string n, .int .u64 q])) := by rw [hx.cell (by simp)]; go_simp
    have hc1 : w₃.cell? ⟨w.heap.size + 1, 1, none⟩ = some (.iface 9 (.string n)) := by rw [hx.cell (by simp)]; go_simp
    have hc2 : w₃.cell? ⟨w.heap.size + 1, 2, none⟩ = some (.iface 23 (.int .u64 d)) := by rw [hx.cell (by simp)]; go_simp
    apply rows_value Ybaf.nextReturned
    case hr =>
      go_simp
      exact ⟨rfl, rfl⟩
    case h =>
      go_wp2
      go_ret
      exact ⟨⟨_, rfl⟩, ((((Below.refl _ _).alloc (Nat.le_refl _) _).alloc (by simp) _).trans (hx.mono (by simp; omega))).alloc (by have := hx.size; simp at this; omega) _ |>.drew⟩

/-- nil where p holds, else an error. -/
def ErrIf (p : Prop) (v : Value) : Prop := (p ∧ v = .nilIface) ∨ (¬ p ∧ ∃ a, v = .iface 42 (.pointer (some a)))

theorem due8_any (F : Interp) (n : ByteArray) (q held : Int) (w : World) (hF : F.answers w.tape) :
    Calls Ybaf.prog 8 #[.int .u64 held, .agg #[.string n, .int .u64 q]] w fun e w' => (∃ v, e = .returned v ∧ ErrIf (q = IntKind.u64.wrap (held + 1)) v) ∧ Below w.heap.size w w' := by
  by_cases h : q = IntKind.u64.wrap (held + 1)
  · exact (due8_ok n q held w h).mono fun e w' ⟨h1, h2⟩ => ⟨⟨_, h1, .inl ⟨h, rfl⟩⟩, h2⟩
  · exact (due8_bad F n q held w hF h).mono fun e w' ⟨⟨a, h1⟩, h2⟩ => ⟨⟨_, h1, .inr ⟨h, a, rfl⟩⟩, h2⟩

set_option maxHeartbeats 800000 in
theorem due6_any (F : Interp) (B : Nat) (n : ByteArray) (q held : Int) (w : World) (hF : F.answers w.tape)
    (hl : ∀ w', Below w.heap.size w w' → (Instr.lookup 25 (.map (some B)) (.string n) false).run Ybaf.prog w' = .ok (.int .u64 held) w') :
    Calls Ybaf.prog 6 #[.map (some B), .agg #[.string n, .int .u64 q]] w fun e w' => (∃ v, e = .returned v ∧ ErrIf (q = IntKind.u64.wrap (held + 1)) v) ∧ Below w.heap.size w w' := by
  have hl1 := hl (w.alloc (.cells #[.string n, .int .u64 q] 31)) ((Below.refl _ _).alloc (Nat.le_refl _) _)
  have HDUE := hide (due8_any F n q held (w.alloc (.cells #[.string n, .int .u64 q] 31)) hF)
  clear hl
  go_enter Ybaf.func6, Ybaf.ntmps6
  go_wp2_with (go_at_call 8; refine HDUE.out.mono ?_; rintro e wq ⟨⟨v, rfl, hv⟩, hq⟩)
  go_ret
  exact ⟨⟨v, rfl, hv⟩, ((Below.refl _ _).alloc (Nat.le_refl _) _).trans (hq.mono (by simp))⟩

/-- The first k preds are held. -/
def heldAll (N : Nat → ByteArray) (S : Nat → Int) (V : ByteArray → Int) (k : Nat) : Prop := ∀ i, i < k → S i ≤ V (N i)

set_option maxRecDepth 100000 in
set_option maxHeartbeats 1600000 in
theorem next5_any (F : Interp) (B g np cp : Nat) (n : ByteArray) (q : Int) (N : Nat → ByteArray) (S : Nat → Int) (V : ByteArray → Int) (w : World) (hF : F.answers w.tape) (hnp : np ≤ 1024) (hgw : 0 < np → g < w.heap.size)
    (hn : n.size ≤ maxLen) (hN : ∀ i, (N i).size ≤ maxLen) (hl : ∀ n' w', n'.size ≤ maxLen → Below w.heap.size w w' → (Instr.lookup 25 (.map (some B)) (.string n') false).run Ybaf.prog w' = .ok (.int .u64 (V n')) w')
    (hc0 : ∀ i, i < np → w.cell? ⟨g, i * 2, none⟩ = some (.string (N i))) (hc1 : ∀ i, i < np → w.cell? ⟨g, i * 2 + 1, none⟩ = some (.int .u64 (S i))) :
    Calls Ybaf.prog 5 #[.map (some B), .agg #[.string n, .int .u64 q], .slice (some ⟨g, 0, none⟩) np cp] w fun e w' => (∃ v, e = .returned v ∧ ErrIf (q = IntKind.u64.wrap (V n + 1) ∧ heldAll N S V np) v) ∧ Below w.heap.size w w' := by
  have HDUE := hide (due6_any F B n q (V n) (w.alloc (.cells #[.string n, .int .u64 q] 31)) hF (fun w' hw => hl n w' hn (((Below.refl _ _).alloc (Nat.le_refl _) _).trans (hw.mono (by simp)))))
  have HL := hide hl
  have HNS := hide hN
  have HC0 := hide hc0
  have HC1 := hide hc1
  have HG := hide hgw
  have HF := hide hF
  clear hl hN hc0 hc1 hgw hF
  go_enter Ybaf.func5, Ybaf.ntmps5
  go_upto_region 2 with (go_at_call 6; refine HDUE.out.mono ?_; rintro e wq ⟨⟨v, rfl, hv⟩, hq⟩)
  have hbq : Below w.heap.size w wq := ((Below.refl _ _).alloc (Nat.le_refl _) _).trans (hq.mono (by simp))
  have hid : wq.cell? ⟨w.heap.size, 0, none⟩ = some (.string n) ∧ wq.cell? ⟨w.heap.size, 1, none⟩ = some (.int .u64 q) := ⟨by rw [hq.cell (by simp)]; go_simp, by rw [hq.cell (by simp)]; go_simp⟩
  have hsz : w.heap.size < wq.heap.size := by have := hq.size; simp at this; omega
  rcases hv with ⟨hp, rfl⟩ | ⟨hp, a, rfl⟩
  · have HP := hide hp
    have HID := hide hid
    clear hp
    have HBQ := hide hbq
    clear hid hbq hq
    go_wp2
    go_loopw [18] (fun i wr => ∃ k : Nat, k ≤ np ∧ i = .int .i64 k ∧ heldAll N S V k ∧ Below wq.heap.size wq wr) (fun i _ => np - (intOf i).toNat)
    case atStart => exact ⟨0, Nat.zero_le _, rfl, (fun i hi => by omega), Below.refl _ _⟩
    case round =>
      obtain ⟨k, hk, rfl, hheld, hnx⟩ := hrel
      by_cases hlt : k < np
      · have hb : Below w.heap.size w wr := HBQ.out.trans (hnx.mono HBQ.out.size)
        have hgl := HG.out (by omega)
        have hx0 := (hb.cell (p := ⟨g, k * 2, none⟩) hgl).trans (HC0.out k hlt)
        have hx1 := (hb.cell (p := ⟨g, k * 2 + 1, none⟩) hgl).trans (HC1.out k hlt)
        have hi0 := (hnx.cell (p := ⟨w.heap.size, 0, none⟩) hsz).trans HID.out.1
        have hi1 := (hnx.cell (p := ⟨w.heap.size, 1, none⟩) hsz).trans HID.out.2
        obtain ⟨m, hm⟩ : ∃ m, m = N k := ⟨_, rfl⟩
        obtain ⟨s, hs⟩ : ∃ s, s = S k := ⟨_, rfl⟩
        rw [← hm] at hx0
        rw [← hs] at hx1
        have hll := HL.out m (wr.alloc (.cells #[.string m, .int .u64 s] 31)) (by rw [hm]; exact HNS.out k) (hb.alloc hb.size _)
        obtain ⟨h, hh⟩ : ∃ h, h = V m := ⟨_, rfl⟩
        rw [← hh] at hll
        have HM := hide hm
        have HS := hide hs
        have HH := hide hh
        have HNX := hide hnx
        have HB := hide hb
        have hkl : (k : Int) < (np : Int) := by omega
        have hwr : w.heap.size < wr.heap.size := Nat.lt_of_lt_of_le hsz hnx.size
        have hwr1 : w.heap.size < wr.heap.size + 1 := by omega
        have hF := show F.answers wr.tape by rw [hb.tape]; exact HF.out
        clear hm hs hh hnx hb
        by_cases hsh : s ≤ h
        · have hts : ¬ h < s := by omega
          have HSH := hide hsh
          have HHELD := hide hheld
          clear hsh hheld hF
          go_wp2
          go_roundw
          case rel =>
            refine ⟨k + 1, by omega, by go_num, ?_, HNX.out.alloc HNX.out.size _⟩
            intro i hi
            by_cases e : i = k
            · subst e
              rw [← HM.out, ← HS.out, ← HH.out]
              exact HSH.out
            · exact HHELD.out i (by omega)
          case measure => simp [intOf]; omega
        · have hts : h < s := by omega
          have hF' := answers_open hF
          have HNO := hide (show ¬ heldAll N S V np from fun hall => hsh (by have := hall k hlt; rw [← HM.out, ← HS.out, ← HH.out] at this; exact this))
          clear hsh hheld
          go_wp2
          apply rows_call Ybaf.nextTurns
          case hr =>
            go_simp
            exact ⟨⟨rfl, rfl, rfl⟩, rfl⟩
          case hi => exact Ybaf.invokeString31 _ _
          case hc =>
            refine (string11 F n q _ (by exact hF)).mono fun e w₃ ⟨⟨s3, he⟩, hx⟩ => ?_
            subst he
            have hFx := show F.answers w₃.tape by rw [hx.tape]; exact hF
            have hF3 := answers_open hFx
            have hc0 : w₃.cell? ⟨wr.heap.size + 1, 0, none⟩ = some (.iface 31 (.agg #[.string n, .int .u64 q])) := by rw [hx.cell (by simp)]; go_simp
            have hc1 : w₃.cell? ⟨wr.heap.size + 1, 1, none⟩ = some (.iface 31 (.agg #[.string m, .int .u64 s])) := by rw [hx.cell (by simp)]; go_simp
            apply rows_call Ybaf.nextReturned
            case hr =>
              go_simp
              exact ⟨⟨rfl, rfl, rfl⟩, rfl⟩
            case hi => exact Ybaf.invokeString31 _ _
            case hc =>
              refine (string11 F m s _ (by exact hFx)).mono fun e w₄ ⟨⟨s4, he⟩, hx4⟩ => ?_
              subst he
              have hz3 : wr.heap.size + 1 < w₃.heap.size := by have := hx.size; simp at this; omega
              have hF4 := answers_open (show F.answers w₄.tape by rw [hx4.tape]; exact hFx)
              have hc04 : w₄.cell? ⟨wr.heap.size + 1, 0, none⟩ = some (.iface 31 (.agg #[.string n, .int .u64 q])) := by rw [hx4.cell (by exact hz3)]; exact hc0
              have hc14 : w₄.cell? ⟨wr.heap.size + 1, 1, none⟩ = some (.iface 31 (.agg #[.string m, .int .u64 s])) := by rw [hx4.cell (by exact hz3)]; exact hc1
              apply rows_value Ybaf.nextReturned
              case hr =>
                go_simp
                exact ⟨rfl, rfl⟩
              case h =>
                go_wp2
                go_ret
                refine ⟨⟨_, rfl, .inr ⟨fun hh => HNO.out hh.2, _, rfl⟩⟩, ?_⟩
                have b1 := (HB.out.alloc HB.out.size (.cells #[.string m, .int .u64 s] 31)).alloc (by have := HB.out.size; simp; omega) (.cells #[.iface 31 (.agg #[.string n, .int .u64 q]), .iface 31 (.agg #[.string m, .int .u64 s])] 20)
                have b2 := b1.trans (hx.mono (by have := HB.out.size; simp; omega))
                have b3 := b2.trans (hx4.mono b2.size)
                exact (b3.alloc b3.size _).drew
      · have : k = np := by omega
        subst this
        have HN := hide hnx
        have HH := hide hheld
        clear hnx hheld
        go_wp2
        go_ret
        exact ⟨⟨_, rfl, .inl ⟨⟨HP.out, HH.out⟩, rfl⟩⟩, HBQ.out.trans (HN.out.mono HBQ.out.size)⟩
  · have HBQ := hide hbq
    clear hid hbq hq
    go_wp2
    go_ret
    exact ⟨⟨_, rfl, .inr ⟨fun h => hp h.1, a, rfl⟩⟩, HBQ.out⟩

end Go.Proofs.YbulkkkgFmt
