import Derived.Test.YbulkkkgRows
import Derived.Test.YbulkkkgPieces
import Derived.WalkKit
import Derived.ProofKit
import Derived.OpenShut
import Derived.ShutString
import Derived.ChangeOld
import Derived.Below
import Derived.Deep.Matrix
namespace Go.Proofs.Ybulkkkg.lawS0552APieces
open Go.ChangeShapes Go.WideShapes Go.ChangeAt Go.RowKit Go.Deep
set_option linter.unusedVariables false

theorem own : ownKnob Yba.prog.godebug = none := by kernel_rfl
theorem laidOut : laidOutB Yba.prog = true := by kernel_rfl

/-- What the walk is told of a slice of slices of bytes that came in. -/
def IsRows (w : World) (a : Option Addr) (len : Nat) : Prop :=
  ∃ (b off : Nat) (V : Nat → Value) (bs : Nat → List Int), (0 < len → a = some ⟨b, off, none⟩) ∧ (0 < len → b < w.heap.size) ∧ (∀ r, r < len → w.cell? ⟨b, off + r, none⟩ = some (V r)) ∧ ∀ r, r < len → Piece w (V r) (bs r)

theorem walk (a : Option Addr) (len cap : Nat) (w : World) (h : IsRows w a len) :
    Calls Yba.prog 3 #[.slice a len cap] w fun e w' => e = .returned (.bool true) ∧ Below w.heap.size w w' := by
  by_cases hlong : 256 < len
  · exact pieces_long a len cap w hlong
  · obtain ⟨b, off, V, bs, ha, hb, hc, hp⟩ := h
    exact pieces_any a b off len cap V bs w (by omega) ha hb hc hp

theorem isRows_of {H : Type} {enc : TypeId × Value → H} {W : World} {a : Option Addr} {len cap : Nat} {d : DataW H} {p : List MemPlace} (h : DataW.Trod enc Yba.prog W 0 (fun _ => true) true 22 (.slice a len cap) d p) : IsRows W a len := by
  obtain ⟨fuel, hf⟩ := h
  rcases open_int_rows Yba.underlying22 Yba.underlying23 Yba.underlying5 (by kernel_rfl) (by kernel_rfl) hf with ⟨hcs, _⟩ | ⟨x, l, c, A, L, C, Z, hcs, _, hl, hm, hx, hr⟩
  · simp [Value.cells] at hcs
    obtain ⟨rfl, rfl, rfl⟩ := hcs
    exact ⟨0, 0, fun _ => .bool false, fun _ => [], fun h => by omega, fun h => by omega, fun r hr => by omega, fun r hr => by omega⟩
  · simp [Value.cells] at hcs
    obtain ⟨rfl, rfl, rfl⟩ := hcs
    by_cases h0 : 0 < len
    · obtain ⟨b, off, spot⟩ := x
      have hspot : spot = none := by simpa [Addr.add] using World.cell?_spot (hr 0 (by omega)).1
      subst hspot
      have hcell : ∀ r, r < len → W.cell? ⟨b, off + r, none⟩ = some (.slice (A r) (L r) (C r)) := fun r hr' => by rw [← add_plain]; exact (hr r (by omega)).1
      refine ⟨b, off, fun r => .slice (A r) (L r) (C r), fun r => (Z r).take (L r), fun _ => rfl, fun _ => World.block_lt_of_cell? W _ (hcell 0 h0), hcell, fun r hr' => ?_⟩
      obtain ⟨_, hLC, hCm, hZ, hwf, hnone, hsome⟩ := hr r (by omega)
      have hlen : ((Z r).take (L r)).length = L r := by rw [List.length_take]; omega
      refine ⟨A r, C r, by rw [hlen], fun h => ?_, fun hp => ?_⟩
      · have := hnone h
        rw [hlen]
        omega
      · rw [hlen] at hp
        have hA : A r ≠ none := fun h => by have := hnone h; omega
        obtain ⟨a', ha'⟩ := Option.ne_none_iff_exists'.1 hA
        obtain ⟨_, hc'⟩ := hsome a' ha'
        obtain ⟨b', o', s'⟩ := a'
        have hs' : s' = none := by simpa [Addr.add] using World.cell?_spot (hc' 0 (by omega))
        subst hs'
        have hc2 : ∀ j, j < C r → W.cell? ⟨b', o' + j, none⟩ = some (.int .u8 ((Z r).getD j 0)) := fun j hj => by rw [← add_plain]; exact hc' j hj
        refine ⟨b', o', ha', World.block_lt_of_cell? W _ (hc2 0 (by omega)), fun j hj => ?_⟩
        rw [hlen] at hj
        rw [hc2 j (by omega)]
        simp only [List.getD_eq_getElem?_getD]
        rw [List.getElem?_take_of_lt hj]
    · exact ⟨0, 0, fun _ => .bool false, fun _ => [], fun h => by omega, fun h => by omega, fun r hr => by omega, fun r hr => by omega⟩

set_option maxRecDepth 100000 in
theorem lifted (os : Os) (started : os.Started) (H : Type) (enc : TypeId × Value → H) :
    ReturnsInHanded {} Yba.checked os 3 .any (Rows.lawS0552APiecesSpec.pre6 enc Yba.prog Yba.f3 Rows.lawS0552APiecesRow.domain false) (Rows.lawS0552APiecesSpec.post enc Yba.prog Yba.f3 false true false false) := by
  refine returnsInHanded_of_change (C := Yba.checked) own started (by kernel_rfl) Yba.func3
    (ChangeSpec.witness6 (enc := enc) (C := Yba.checked) false ⟨#[], #[.slice none 0 0], []⟩ 8 (by kernel_rfl) (by kernel_rfl) (by kernel_rfl) (by kernel_rfl)) ?_
  intro W base args ds gs before hval0 hW hcnd _
  have hval : ∀ (j : Nat) t v, Yba.f3.params[j]? = some t → args[j]? = some v → Value.okWide Yba.prog W .any base t v := hval0
  have hW' := hW
  obtain ⟨p, q, hA0, hV, rfl, hfz, hnd⟩ := hW
  have hA : DataW.TrodAll enc Yba.prog W 0 (fun _ => true) true Yba.f3.params.toList args.toList ds p := hA0
  rw [Yba.params3] at hA hval
  obtain ⟨v0, vs0, d0, ds0, p0, q0, hargs, rfl, rfl, h0, r0⟩ := trodAll_cons hA
  obtain ⟨rfl, rfl, rfl⟩ := trodAll_nil r0
  obtain rfl : args = #[v0] := by cases args; simp_all
  obtain ⟨rfl, rfl⟩ := trodVars_none hV
  obtain ⟨a0, len0, cap0, rfl⟩ := okWide_slice Yba.underlying22 (hval 0 22 v0 rfl rfl)
  have k0 := h0
  have lt0 : ∀ x ∈ p0, x.block < W.heap.size := by obtain ⟨m, hm⟩ := k0; exact DataW.trod_lt m _ _ _ hm
  have w0 := isRows_of h0
  clear hA0 hval0
  refine (walk a0 len0 cap0 W w0).mono fun e W' ⟨he, bel⟩ => ?_
  subst he
  exact ⟨_, rfl, _, _, _, [], _, [], hW', trodAll_mk1 (shut_bool Yba.underlying4 _), (trodAll_cons_mk (Below.trod laidOut (by kernel_rfl) (of_decide_eq_true (by kernel_rfl)) k0 bel lt0) trodAll_mk0), rfl, bel.frame _, fun h => by cases h⟩

theorem over : Rows.lawS0552APiecesRow.holds Yba.pinned (OpenSpec.ofChange Rows.lawS0552APiecesSpec) :=
  OpenClaim.holds_of_wide 3 Yba.f3 rfl rfl rfl rfl rfl rfl rfl ⟨rfl, rfl, rfl, rfl, rfl⟩ rfl rfl rfl rfl rfl (by kernel_rfl) Yba.func3 (by kernel_rfl)
    (of_decide_eq_true (by kernel_rfl)) (by unfold Func.isWrapper; first | (rw [if_pos (by decide +kernel)]; kernel_rfl) | (rw [if_neg (by decide +kernel)]; exact ⟨rfl, rfl⟩))
    (fun os started H enc _ => lifted os started H enc)

/-- THE STATEMENT -/
theorem proved : Rows.LawS0552APiecesSaid := over
end Go.Proofs.Ybulkkkg.lawS0552APieces
