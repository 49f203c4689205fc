import Derived.Test.YbulkkiqGroups
import Derived.Deep.MidRow
namespace Go.Proofs.Ybulkkiq
open Go.RowKit Go.Lib Go.Maps Go.WideMaps

variable {w : World} {base B n : Nat} {D : DataW Value} {V : List UInt8 → Value} {L : List UInt8 → List ByteArray}

set_option maxHeartbeats 400000 in
theorem set_any (h : Groups w base B n D V L) (s t : ByteArray) (hs : s.size ≤ maxLen) (hn : n < maxLen) (hb : base ≤ w.heap.size) :
    Calls Yba.prog 23 #[.map (some B), .string s, .string t] w fun e w' => e = .returned (.tuple #[]) ∧
      (∃ v', Groups w' base B (n + 1) (D.put (.string s.data.toList) (.held v')) (upd V s.data.toList v') (upd L s.data.toList [t])) ∧ w.grownBy w' (some B) := by
  obtain ⟨w2, hrun, hG, hg2⟩ := h.put (w1 := w.alloc (.cells #[.string t] 9)) (v' := .slice (some ⟨w.heap.size, 0, none⟩) 1 1) (l' := [t]) s hs hn (World.grownBy_alloc _ _ _)
    (World.ownsRow_lit w #[.string t] 1 hb (by unfold maxLen; omega) rfl) (.inr ⟨_, rfl, Nat.le_refl _⟩)
  go_enter Yba.func23, Yba.ntmps23
  go_wp2
  go_end0
  exact ⟨rfl, ⟨_, hG⟩, (World.grownBy_alloc w _ _).trans hg2⟩

/-- A member's cells: its identifier's, and its address. -/
def peerCells (xs : List Int) (bits : Nat) (addr : ByteArray) : List Value := idCells xs bits ++ [.string addr]

theorem idCells_len (xs : List Int) (bits : Nat) (hx : xs.length = 20) : (idCells xs bits).length = 21 := by simp [idCells, hx]
theorem info29 : (Yba.prog.info? 29).map (·.size) = some 21 := by kernel_rfl

theorem peer_range (xs : List Int) (bits : Nat) (addr : ByteArray) (w : World) (t : TypeId) : (w.alloc (.cells (peerCells xs bits addr).toArray t)).rangeAt w.heap.size 0 (idCells xs bits) := fun j v hv => by
  rw [Nat.zero_add, World.cell?_alloc_new]
  simp only [peerCells, List.getElem?_toArray]
  rw [List.getElem?_append_left (List.getElem?_eq_some_iff.1 hv).1]
  exact hv

set_option maxRecDepth 100000 in
set_option maxHeartbeats 400000 in
/-- (ID).Bits -/
theorem bits_any (xs : List Int) (bits : Nat) (w : World) (hx : xs.length = 20) (hb : bits ≤ 160) :
    Calls Yba.prog 22 #[.agg (idCells xs bits).toArray] w fun e w' => e = .returned (.int .i64 bits) ∧ Below w.heap.size w w' := by
  have h20 := id_cell_bits xs bits w 29 hx
  clear hx
  go_enter Yba.func22, Yba.ntmps22
  go_wp2
  go_ret
  exact ⟨rfl, (Below.refl _ w).alloc (Nat.le_refl _) _⟩

set_option maxRecDepth 100000 in
set_option maxHeartbeats 400000 in
theorem pq_zero (xs : List Int) (addr : ByteArray) (m : Option Nat) (w : World) (hx : xs.length = 20) :
    Calls Yba.prog 12 #[.agg (peerCells xs 0 addr).toArray, .map m] w fun e w' => e = .returned (.map m) ∧ Below w.heap.size w w' := by
  have hr := peer_range xs 0 addr w 31
  have hl : (Yba.prog.info? 29).map (·.size) = some (idCells xs 0).length := by rw [info29, idCells_len xs 0 hx]
  have HR := hide hr
  have HL := hide hl
  have HX := hide hx
  clear hr hl hx
  go_enter Yba.func12, Yba.ntmps12
  go_wp2_with (first | (refine wpList_load_mid rfl 29 _ rfl w.heap.size 0 rfl (idCells xs 0) _ HR.out Yba.underlying29 rfl HL.out ?_) | (go_at_call 22; refine (bits_any xs 0 _ HX.out (by omega)).mono ?_; rintro e w1 ⟨rfl, hb1⟩))
  go_ret
  exact ⟨rfl, ((Below.refl _ w).alloc (Nat.le_refl _) _).trans (hb1.mono (by simp))⟩

/-- The key "vnode". -/
def vnode : ByteArray := ⟨#[118, 110, 111, 100, 101]⟩
theorem vnode_size : vnode.size ≤ maxLen := by decide

theorem eql73 (w : World) (r : Option Nat) : (binOp .eql 73 (.map r) (.map none)).run Yba.prog w = .ok (.bool r.isNone) w := run_eql_map_nil w _ _ _ r Yba.underlying73
theorem neq73 (w : World) (r : Option Nat) : (binOp .neq 73 (.map r) (.map none)).run Yba.prog w = .ok (.bool (!r.isNone)) w := run_neq_map_nil w _ _ _ r Yba.underlying73

theorem range_below {w w' : World} {b o B : Nat} {cs : List Value} (h : w.rangeAt b o cs) (hb : Below B w w') (hlt : b < B) : w'.rangeAt b o cs := fun j v hv => (hb.cell (p := ⟨b, o + j, none⟩) hlt).trans (h j v hv)

set_option maxRecDepth 100000 in
set_option maxHeartbeats 1000000 in
theorem pq_some (h : Groups w base B n D V L) (xs : List Int) (bits : Nat) (addr : ByteArray) (hx : xs.length = 20) (hr : ∀ i, i < 20 → 0 ≤ xs.getD i 0 ∧ xs.getD i 0 < 256) (hb : bits ≤ 160) (h0 : 0 < bits) (hn : n < maxLen) (hbase : base ≤ w.heap.size) :
    Calls Yba.prog 12 #[.agg (peerCells xs bits addr).toArray, .map (some B)] w fun e w' => e = .returned (.map (some B)) ∧
      (∃ v', Groups w' base B (n + 1) (D.put (.string vnode.data.toList) (.held v')) (upd V vnode.data.toList v') (upd L vnode.data.toList [⟨(hexL xs bits).toArray⟩])) ∧ w.grownBy w' (some B) := by
  have hrg := peer_range xs bits addr w 31
  have hl : (Yba.prog.info? 29).map (·.size) = some (idCells xs bits).length := by rw [info29, idCells_len xs bits hx]
  have HG := hide h
  have HR := hide hrg
  have HL := hide hl
  have HX := hide hx
  have HB := hide hr
  have hbz : ((bits : Int) == 0) = false := by rw [beq_eq_false_iff_ne]; omega
  have he := eql73
  clear hrg hl hx hr h
  go_enter Yba.func12, Yba.ntmps12
  go_wp2_with (first | (refine wpList_load_mid rfl 29 _ rfl w.heap.size 0 rfl (idCells xs bits) _ HR.out Yba.underlying29 rfl HL.out ?_) | (refine wpList_load_mid rfl 29 _ rfl w.heap.size 0 rfl (idCells xs bits) _ HR2.out Yba.underlying29 rfl HL.out ?_) | (go_at_call 22; refine (bits_any xs bits _ HX.out (by omega)).mono ?_; rintro e w1 ⟨rfl, hb1⟩; have HR2 := hide (range_below HR.out hb1 (by simp))))
  refine (string_any xs bits _ HX.out HB.out hb).mono ?_
  rintro e w2 ⟨rfl, hb2⟩
  go_wp2_with fail
  have b1 : Below w.heap.size w w2 := ((Below.refl _ w).alloc (Nat.le_refl _) _).trans ((hb1.mono (by simp)).trans (hb2.mono (by have := hb1.size; simp at this; omega)))
  have G2 := HG.out.below b1 (Nat.le_refl _)
  refine (set_any G2 vnode _ vnode_size hn (Nat.le_trans hbase b1.size)).mono ?_
  rintro e w3 ⟨rfl, hg3, hgr⟩
  have HG3 := hide hg3
  have HGR := hide hgr
  clear hg3 hgr G2 HG
  go_wp2
  go_ret
  exact ⟨rfl, HG3.out, (World.grownBy.trans (b := w2) ⟨b1.os, b1.tape, b1.output, b1.size, fun k hk _ => b1.block k hk⟩ HGR.out)⟩

set_option maxRecDepth 100000 in
set_option maxHeartbeats 1000000 in
theorem pq_nil (w : World) (xs : List Int) (bits : Nat) (addr : ByteArray) (hx : xs.length = 20) (hr : ∀ i, i < 20 → 0 ≤ xs.getD i 0 ∧ xs.getD i 0 < 256) (hb : bits ≤ 160) (h0 : 0 < bits) :
    Calls Yba.prog 12 #[.agg (peerCells xs bits addr).toArray, .map none] w fun e w' => ∃ B, e = .returned (.map (some B)) ∧
      (∃ v', Groups w' (B + 1) B 1 ((DataW.map []).put (.string vnode.data.toList) (.held v')) (upd (fun _ => .slice none 0 0) vnode.data.toList v') (upd (fun _ => []) vnode.data.toList [⟨(hexL xs bits).toArray⟩])) ∧ Below w.heap.size w w' := by
  have hrg := peer_range xs bits addr w 31
  have hl : (Yba.prog.info? 29).map (·.size) = some (idCells xs bits).length := by rw [info29, idCells_len xs bits hx]
  have HR := hide hrg
  have HL := hide hl
  have HX := hide hx
  have HB := hide hr
  have hbz : ((bits : Int) == 0) = false := by rw [beq_eq_false_iff_ne]; omega
  have he := eql73
  have hmm := @run_makeMap Yba.prog
  clear hrg hl hx hr
  go_enter Yba.func12, Yba.ntmps12
  go_wp2_with (first | (refine wpList_load_mid rfl 29 _ rfl w.heap.size 0 rfl (idCells xs bits) _ HR.out Yba.underlying29 rfl HL.out ?_) | (refine wpList_load_mid rfl 29 _ rfl w.heap.size 0 rfl (idCells xs bits) _ (HR2.out _) Yba.underlying29 rfl HL.out ?_) | (go_at_call 22; refine (bits_any xs bits _ HX.out (by omega)).mono ?_; rintro e w1 ⟨rfl, hb1⟩; have HR2 := hide (fun o => World.rangeAt_alloc (range_below HR.out hb1 (by simp)) o)))
  refine (string_any xs bits _ HX.out HB.out hb).mono ?_
  rintro e w2 ⟨rfl, hb2⟩
  go_wp2_with fail
  have b1 : Below w.heap.size w w1 := ((Below.refl _ w).alloc (Nat.le_refl _) _).trans (hb1.mono (by simp))
  have b2 : Below (w1.heap.size + 1) (w1.alloc (.map #[] 0)) w2 := hb2.mono (by simp)
  have G2 := (Groups.made w1).below b2 (by simp)
  refine (set_any G2 vnode _ vnode_size (by decide) (by have := b2.size; simp at this; omega)).mono ?_
  rintro e w3 ⟨rfl, hg3, hgr⟩
  have b3 : Below w.heap.size w w3 := ((b1.alloc b1.size _).trans (b2.mono (by have := b1.size; omega))).grown hgr (by have := b1.size; have := b2.size; simp at this; omega) (fun k hk => by cases hk; exact b1.size)
  have HG3 := hide hg3
  clear hg3 hgr G2
  go_wp2
  go_ret
  exact ⟨_, rfl, HG3.out, b3⟩

end Go.Proofs.Ybulkkiq
