import Derived.Test.YbulkkiqANeq
import Derived.Deep.AppendLies
import Derived.OwnWalk
import Derived.Maps.AppendAt
import Derived.Deep.DeepCutAuto
namespace Go.Proofs.Ybulkkiq
open Go.RowKit
set_option maxRecDepth 100000

theorem zero31 : ∃ i z, Yba.prog.info? 31 = some i ∧ i.zero = some z ∧ i.size = 22 ∧ i.bytes = 40 ∧ z.cells.size = 22 := by
  have h : (Yba.prog.info? 31).map (fun i => (i.zero.map (·.cells.size), i.size, i.bytes)) = some (some 22, 22, 40) := by kernel_rfl
  obtain ⟨i, hi, h⟩ := Option.map_eq_some_iff.1 h
  simp only [Prod.mk.injEq] at h
  obtain ⟨h0, h1, h2⟩ := h
  obtain ⟨z, hz, hz2⟩ := Option.map_eq_some_iff.1 h0
  exact ⟨i, z, hi, hz, h1, h2, hz2⟩

theorem own_empty (w : World) (e size : Nat) : (w.alloc (.cells #[] e)).ownsRow w.heap.size e size (.slice (some ⟨w.heap.size, 0, none⟩) 0 0) 0 [] := by
  refine ⟨by simp, .inr ⟨w.heap.size, 0, #[], rfl, Nat.le_refl _, heap_alloc_new w (.cells #[] e), Nat.le_refl _, Nat.zero_le _, by simp, by simp⟩⟩
theorem cells_past {w : World} {g : Nat} {cs : List Value} (hc : ∀ j u, cs[j]? = some u → w.cell? ⟨g, j, none⟩ = some u) (hg : g < w.heap.size) {o : Obj} : ∀ j u, cs[j]? = some u → (w.alloc o).cell? ((⟨g, 0, none⟩ : Addr).add j) = some u := by
  intro j u hj
  have hadd : (⟨g, 0, none⟩ : Addr).add j = ⟨g, j, none⟩ := by unfold Addr.add; split <;> simp_all
  rw [hadd]
  exact (World.cell?_alloc_past o g _ hg).trans (hc j u hj)
theorem eqNil27 (a : Addr) (n c : Nat) (w : World) : (binOp .eql 27 (.slice (some a) n c) (.slice none 0 0)).run Yba.prog w = .ok (.bool false) w := by kernel_rfl
theorem eqNil27_nil (w : World) : (binOp .eql 27 (.slice none 0 0) (.slice none 0 0)).run Yba.prog w = .ok (.bool true) w := by kernel_rfl

theorem clone_nil (w : World) : Calls Yba.prog 26 #[.slice none 0 0] w fun e w' => e = .returned (.slice none 0 0) ∧ w' = w := by
  have e1 := eqNil27
  have e2 := eqNil27_nil
  go_enter Yba.func26, Yba.ntmps26
  go_wp2
  go_ret
  exact ⟨rfl, rfl⟩

set_option maxHeartbeats 800000 in
theorem clone_zero (g c : Nat) (w : World) : Calls Yba.prog 26 #[.slice (some ⟨g, 0, none⟩) 0 c] w fun e w' => (∃ s, e = .returned (.slice s 0 0)) ∧ Below w.heap.size w w' := by
  have e1 := eqNil27
  have e2 := eqNil27_nil
  go_enter Yba.func26, Yba.ntmps26
  go_wp2
  go_ret
  exact ⟨⟨_, rfl⟩, (Below.refl _ _).alloc (Nat.le_refl _) _⟩

set_option maxHeartbeats 800000 in
theorem clone_any (g n c : Nat) (cs : List Value) (w : World) (hn : 0 < n) (hn2 : n ≤ 1024) (hl : cs.length = n * 22) (hc : ∀ j u, cs[j]? = some u → w.cell? ⟨g, j, none⟩ = some u) (h1 : ∀ u ∈ cs, u.oneCell' = true) (hg : g < w.heap.size) :
    Calls Yba.prog 26 #[.slice (some ⟨g, 0, none⟩) n c] w fun e w' => (∃ g' c', e = .returned (.slice (some ⟨g', 0, none⟩) n c') ∧ w'.ownsRow w.heap.size 31 22 (.slice (some ⟨g', 0, none⟩) n c') n cs ∧ g' < w'.heap.size) ∧ Below w.heap.size w w' := by
  obtain ⟨i, z, hi, hz, hs, hb, hzs⟩ := zero31
  have HC := hidA hc
  have H1 := hidA h1
  clear hc h1
  have e1 := eqNil27
  have e2 := eqNil27_nil
  go_enter Yba.func26, Yba.ntmps26
  go_wp2_with (at_builtin; refine wpList_append_lies _ rfl _ _ 27 rfl w.heap.size 31 i z 22 40 Yba.underlying27 hi hz hs hb hzs (by omega) (.slice (some ⟨w.heap.size, 0, none⟩) 0 0) 0 [] rfl (own_empty w 31 22) ⟨g, 0, none⟩ n c cs rfl hl (cells_past HC.out hg) H1.out hn (by unfold maxLen; omega) (by omega) (by simp) _ rfl ?_; intro g' c' w' hown hgrow hat hlt)
  go_ret
  rw [Nat.zero_add, List.nil_append] at hown
  exact ⟨⟨g', c', rfl, hown, hlt⟩, ((Below.refl _ _).alloc (Nat.le_refl _) _).grown hgrow (by simp) (fun k hk => by cases hk; exact Nat.le_refl _)⟩

end Go.Proofs.Ybulkkiq
