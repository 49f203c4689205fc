import Derived.Test.YbulkkiqANode
namespace Go.Proofs.Ybulkkiq
open Go.RowKit Go.MuLone
set_option maxRecDepth 100000

/-- The law's own row of successors. -/
def SuccR (w : World) (base n scap : Nat) (M : Nat → Mem) (sa : Option Addr) : Prop :=
  (sa = none ∧ n = 0 ∧ scap = 0) ∨ ∃ g, sa = some ⟨g, 0, none⟩ ∧ base ≤ g ∧ g < w.heap.size ∧ ∀ j u, (rowM M n)[j]? = some u → w.cell? ⟨g, j, none⟩ = some u
theorem SuccR.kept {w w' : World} {base n scap : Nat} {M : Nat → Mem} {sa : Option Addr} (h : SuccR w base n scap M sa) (hs : w.heap.size ≤ w'.heap.size) (hk : ∀ k, k < w.heap.size → w'.heap[k]? = w.heap[k]?) : SuccR w' base n scap M sa := by
  rcases h with h | ⟨g, h1, h2, h3, h4⟩
  · exact .inl h
  · exact .inr ⟨g, h1, h2, Nat.lt_of_lt_of_le h3 hs, fun j u hj => (World.cell?_of_block (w := w) (hk g h3)).trans (h4 j u hj)⟩

/-- The blocks but one stand; the row lies in another. -/
theorem SuccR.kept_but {w w' : World} {base n scap nb : Nat} {M : Nat → Mem} {sa : Option Addr} (h : SuccR w base n scap M sa) (hs : w.heap.size ≤ w'.heap.size) (hk : ∀ k, k < w.heap.size → k ≠ nb → w'.heap[k]? = w.heap[k]?) (hne : ∀ g, sa = some ⟨g, 0, none⟩ → g ≠ nb) : SuccR w' base n scap M sa := by
  rcases h with h | ⟨g, h1, h2, h3, h4⟩
  · exact .inl h
  · exact .inr ⟨g, h1, h2, Nat.lt_of_lt_of_le h3 hs, fun j u hj => (World.cell?_of_block (w := w) (hk g h3 (hne g h1))).trans (h4 j u hj)⟩
theorem SuccR.lt_of {w : World} {base n scap nb : Nat} {M : Nat → Mem} {sa : Option Addr} (h : SuccR w base n scap M sa) (hb : w.heap.size ≤ nb) : ∀ g, sa = some ⟨g, 0, none⟩ → g ≠ nb := by
  intro g hg
  rcases h with ⟨h, _⟩ | ⟨g', h1, _, h3, _⟩
  · rw [hg] at h; cases h
  · rw [hg] at h1
    cases h1
    omega

theorem clone_R {wx : World} {base n scap : Nat} {M : Nat → Mem} {sa : Option Addr} (h : SuccR wx base n scap M sa) (hn : n ≤ 1024) :
    Calls Yba.prog 26 #[.slice sa n scap] wx fun e w' => (∃ a c, e = .returned (.slice a n c) ∧ CloneR w' wx.heap.size 0 n (rowM M n) a) ∧ Below wx.heap.size wx w' := by
  rcases h with ⟨rfl, rfl, rfl⟩ | ⟨g, rfl, h2, h3, h4⟩
  · exact (clone_nil wx).mono fun e w' ⟨he, hw⟩ => ⟨⟨none, 0, he, fun h => by omega⟩, by rw [hw]; exact Below.refl _ _⟩
  · by_cases h0 : 0 < n
    · refine (clone_any g n scap (rowM M n) wx h0 hn (rowM_len M n) h4 (rowM_one M n) h3).mono fun e w' ⟨⟨g', c', he, hown, hlt⟩, hb⟩ => ⟨⟨some ⟨g', 0, none⟩, c', he, fun _ => ?_⟩, hb⟩
      have hge := (hown.lt g' rfl).1
      refine ⟨g', rfl, hge, by omega, hlt, fun j u hj => ?_, fun j => ?_⟩
      · have hj' : j < (rowM M n).length := (List.getElem?_eq_some_iff.1 hj).1
        rw [rowM_len] at hj'
        rw [hown.cellAt j hj']
        exact hj
      · rcases hown.2 with ⟨e1, _⟩ | ⟨g2, c2, cur, e1, _, hh, _⟩
        · cases e1
        · have : g' = g2 := by simp at e1; exact e1.1
          subst this
          simp [World.frozen?, hh]
    · have : n = 0 := by omega
      subst this
      exact (clone_zero g scap wx).mono fun e w' ⟨⟨s, he⟩, hb⟩ => ⟨⟨s, 0, he, fun h => by omega⟩, hb⟩

/-- The node and its host stand. -/
theorem stands_of {w : World} {nb hb mb : Nat} {sc pc : List Value} {sa : Option Addr} {n scap : Nat} (hN : w.heap[nb]? = some (.cells (nodeC sc pc sa n scap hb).toArray 61 (0, 0))) (hH : w.heap[hb]? = some (.cells (hostC mb).toArray 57 (0, 0)))
    (h1 : sc.length = 22) (h2 : pc.length = 22) (hmb : mb < hb) (hhb : hb < nb) : Stands w nb hb mb sc pc sa n scap where
  self := node_self (row_range hN)
  pred := node_pred (row_range hN) h1
  succ := node_end (row_range hN) h1 h2 0 (by omega) _ rfl
  host := node_mid (row_range hN) h1 1 (by omega) _ rfl
  kv := row_range hH 9 _ rfl
  kvf := by simp [World.frozen?, hH]
  values := row_range hH 11 _ rfl
  nbl := (Array.getElem?_eq_some_iff.1 hN).1
  hbl := (Array.getElem?_eq_some_iff.1 hH).1
  mbl := by have := (Array.getElem?_eq_some_iff.1 hH).1; omega
  apart := by omega
  mapart := by omega

end Go.Proofs.Ybulkkiq
