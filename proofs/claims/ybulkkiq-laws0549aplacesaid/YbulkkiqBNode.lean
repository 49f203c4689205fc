import Derived.Test.YbulkkiqLocks
import Derived.WalkKit
import Derived.WalkSpells
import Derived.WalkLawsBesides
namespace Go.Proofs.Ybulkkiq
open Go.RowKit Go.MuLone

theorem hid {p : Prop} (h : p) : Hid p := h

/-- A cell stored, and stored back. -/
theorem setCell_back (w : World) (b o : Nat) (u v : Value) (h : w.cell? ⟨b, o, none⟩ = some v) : (w.setCell ⟨b, o, none⟩ u).setCell ⟨b, o, none⟩ v = w := by
  have hb : b < w.heap.size := World.block_lt_of_cell? w _ h
  have e : ((w.setCell ⟨b, o, none⟩ u).setCell ⟨b, o, none⟩ v).heap = w.heap := by
    apply Array.ext_getElem?
    intro i
    simp only [World.setCell, Array.getElem?_modify]
    by_cases hi : b = i
    · subst hi
      simp only [if_true]
      rw [Array.getElem?_eq_getElem hb]
      simp only [World.cell?, Array.getElem?_eq_getElem hb] at h
      generalize w.heap[b] = ob at h ⊢
      cases ob with
      | cells cs t fr =>
        simp at h ⊢
        apply Array.ext_getElem?
        intro j
        rw [Array.getElem?_setIfInBounds]
        by_cases hj : o = j
        · subst hj
          rw [if_pos rfl, if_pos (Array.getElem?_eq_some_iff.1 h).1, h]
        · rw [if_neg hj]
      | _ => simp at h
    · simp [hi]
  cases w
  simp only [World.setCell] at e ⊢
  congr

set_option maxHeartbeats 400000 in
/-- (*Node).PlaceChanges at a node whose lock is free. -/
theorem node_pc (b : Nat) (c : Int) (w : World) (h27 : w.cell? ⟨b, 27, none⟩ = some (.int .i32 0)) (f27 : w.frozen? ⟨b, 27, none⟩ = false) (h54 : w.cell? ⟨b, 54, none⟩ = some (.int .u64 c)) :
    Calls Yba.prog 21 #[.pointer (some ⟨b, 0, none⟩)] w fun e w' => e = .returned (.int .u64 c) ∧ w' = w := by
  go_enter_defers Yba.func21, Yba.ntmps21
  go_wp2_with (go_at_call 17; refine (lock_free Yba.muLib ⟨b, 27, none⟩ _ h27 f27).mono ?_; rintro e w' ⟨rfl, rfl⟩)
  refine leaves_cons (f := 10) (args := #[.pointer (some ⟨b, 27, none⟩)]) (by simp) (by simp [go_sem]) ?_
  refine (unlock_deferred Yba.muLib ⟨b, 27, none⟩ .returning _ ?_ ?_).mono ?_
  · exact World.cell?_setCell_same w ⟨b, 27, none⟩ (.int .i32 1) h27
  · simp [f27]
  rintro e u' w'' ⟨rfl, rfl, rfl⟩
  exact ⟨_, results_tmp rfl _ _ _, rfl, setCell_back w b 27 _ _ h27⟩

end Go.Proofs.Ybulkkiq
