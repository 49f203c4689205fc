-- MINE
import Derived.Test.YbulkkiqFmtNew
import Derived.Test.YbulkkiqFmtShelf
namespace Go.Proofs.YbulkkiqFmt
open Go.RowKit Go.MuLone Go.Shelf
open Go.Extern.Stop (cell)
set_option maxRecDepth 100000
set_option linter.unusedSimpArgs false

/-- The cells of a row of members. -/
def rowP (zs : List UInt8) : List Value := zs.flatMap peerC
theorem rowP_snoc (zs : List UInt8) (z : UInt8) : rowP (zs ++ [z]) = rowP zs ++ peerC z := by simp [rowP]
theorem rowP_len : ∀ zs : List UInt8, (rowP zs).length = zs.length * 22
  | [] => rfl
  | z :: zs => by
    have := rowP_len zs
    simp only [rowP, List.flatMap_cons, List.length_append, peerC_len, List.length_cons] at this ⊢
    omega
theorem rowP_get : ∀ (zs : List UInt8) (j i : Nat), j < zs.length → i < 22 → (rowP zs)[j * 22 + i]? = (peerC zs[j]!)[i]?
  | [], j, i, h, _ => by simp at h
  | z :: zs, j, i, h, hi => by
    have e : rowP (z :: zs) = peerC z ++ rowP zs := rfl
    rw [e]
    cases j with
    | zero =>
      rw [List.getElem?_append_left (by rw [peerC_len]; omega)]
      simp
    | succ j =>
      rw [List.getElem?_append_right (by rw [peerC_len]; omega), peerC_len, show (j + 1) * 22 + i - 22 = j * 22 + i by omega, rowP_get zs j i (by simpa using h) hi]
      simp

set_option maxHeartbeats 1600000 in
theorem closure25 (y z : UInt8) (pb : Nat) (W : World) (h : W.rangeAt pb 0 (peerC z)) :
    Calls Ybaf.prog 25 #[.agg (peerC y).toArray, .pointer (some ⟨pb, 0, none⟩)] W fun e w' => e = .returned (.bool (y == z)) ∧ Below W.heap.size W w' := by
  have HIy := hide (show (Ybaf.prog.info? 25).map (·.size) = some (idC y).length by rw [info25, idC_len])
  have HIz := hide (show (Ybaf.prog.info? 25).map (·.size) = some (idC z).length by rw [info25, idC_len])
  have H1 := hide (peer_id (range_new W (peerC y) 54))
  have H2 := hide (peer_id (World.rangeAt_alloc h (.cells (peerC y).toArray 54)))
  have hq : ∀ w, (binOp .eql 25 (.agg (idC y).toArray) (.agg (idC z).toArray)).run Ybaf.prog w = .ok (.bool (y == z)) w := eqID.1 y z
  have hg : ∀ a b w, (eqGuard .eql 25 a b (.agg (idC y).toArray) (.agg (idC z).toArray)).run Ybaf.prog w = .ok () w := fun a b w => eqID.2 .eql a b y z w
  generalize (y == z) = bb at hq ⊢
  clear h
  go_enter Ybaf.func25, Ybaf.ntmps25
  go_wp2_with (first
    | (refine wpList_load_mid rfl 25 _ rfl W.heap.size 0 rfl (idC y) _ H1.out Ybaf.underlying25 rfl HIy.out ?_)
    | (refine wpList_load_mid rfl 25 _ rfl pb 0 rfl (idC z) _ H2.out Ybaf.underlying25 rfl HIz.out ?_))
  go_ret
  exact ⟨rfl, (Below.refl _ _).alloc (Nat.le_refl _) _⟩

theorem some24 (zs : List UInt8) (g cap pb : Nat) (z : UInt8) (w : World) (hz : w.rangeAt pb 0 (peerC z)) (hpb : pb < w.heap.size) (hg : g < w.heap.size) (hc : ∀ p u, (rowP zs)[p]? = some u → w.cell? ⟨g, p, none⟩ = some u) (hl : zs.length ≤ 100) :
    Calls Ybaf.prog 24 #[.slice (some ⟨g, 0, none⟩) zs.length cap, .func (.func 25) #[] #[.pointer (some ⟨pb, 0, none⟩)]] w fun e w' => (∃ b, e = .returned (.bool b)) ∧ Below w.heap.size w w' := by
  have hcon := AnyQ.slices_ContainsFunc Ybaf.containsF 22 Ybaf.isAgg54 Ybaf.sizeOf54 peerC peerC_len (fun y => y == z) 25 #[.pointer (some ⟨pb, 0, none⟩)] (enters_of Ybaf.func25 (by kernel_rfl) rfl) g 0 zs.length cap zs w
    (fun W y hb => (closure25 y z pb W (range_of_below hz hb hpb)).mono fun e w' ⟨he, hb'⟩ => ⟨he, hb.trans (hb'.mono hb.size)⟩) (Nat.le_refl _) (by omega) hg (fun j hj i v hv => by
      have hi : i < 22 := by have := (List.getElem?_eq_some_iff.1 hv).1; rw [peerC_len] at this; exact this
      rw [Nat.zero_add]
      exact hc _ _ ((rowP_get zs j i hj hi).trans hv))
  change Calls Ybaf.prog 24 _ _ _ at hcon
  exact hcon.mono fun e w' ⟨he, hb⟩ => ⟨⟨_, he⟩, hb⟩

theorem equal26 (zs : List UInt8) (y x : UInt8) (hy : y ≠ x) (g cap gs : Nat) (w : World) (hc : ∀ p u, (rowP (y :: zs))[p]? = some u → w.cell? ⟨g, p, none⟩ = some u) (hs : w.rangeAt gs 0 (peerC x)) (hl : zs.length ≤ 100) :
    Calls Ybaf.prog 26 #[.slice (some ⟨g, 0, none⟩) (y :: zs).length cap, .slice (some ⟨gs, 0, none⟩) 1 1] w fun e w' => e = .returned (.bool false) ∧ ∃ q, w' = w.drewN q := by
  have hcon := AnyQ.slices_Equal Ybaf.equalP 22 Ybaf.isAgg54 Ybaf.sizeOf54 peerC peerC_len (fun x y : UInt8 => x == y) neqPeer g 0 (y :: zs).length cap gs 0 1 1 (y :: zs) [x] w (Nat.le_refl _) (Nat.le_refl _) (by simp; omega) (by omega) (fun j hj i v hv => by
      have hi : i < 22 := by have := (List.getElem?_eq_some_iff.1 hv).1; rw [peerC_len] at this; exact this
      rw [Nat.zero_add]
      exact hc _ _ ((rowP_get (y :: zs) j i hj hi).trans hv)) (fun j hj i v hv => by
      have : j = 0 := by simpa using hj
      subst this
      have := hs i v hv
      simpa using this)
  change Calls Ybaf.prog 26 _ _ _ at hcon
  have e : Lib.allEq (fun x y : UInt8 => x == y) ((y :: zs).take (y :: zs).length) ([x].take 1) = false := by
    have hyx : (y == x) = false := by simpa using hy
    cases zs <;> simp [Lib.allEq, hyx, hy]
  rw [e] at hcon
  exact hcon

end Go.Proofs.YbulkkiqFmt
