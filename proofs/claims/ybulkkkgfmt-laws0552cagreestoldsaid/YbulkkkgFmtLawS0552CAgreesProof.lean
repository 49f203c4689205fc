import Derived.Test.YbulkkkgFmtRows
import Derived.Test.YbulkkkgFmtCards
import Derived.Test.YbulkkkgFmtLaw
import Derived.WalkKit
import Derived.ProofKit
import Derived.OpenShut
import Derived.ShutString
import Derived.ChangeOld
import Derived.Below
import Derived.Deep.SlicePairs
import Derived.Stop.JoinedAt
import Derived.Stop.JoinedTold
import Derived.SevenToldRow
namespace Go.Proofs.YbulkkkgFmt.lawS0552CAgrees
open Go.ChangeShapes Go.WideShapes Go.ChangeAt Go.RowKit Go.Deep
open Go.Extern.Stop Go.Stop Go.Extern
set_option linter.unusedVariables false

theorem own : ownKnob Ybaf.prog.godebug = none := by kernel_rfl
theorem laidOut : laidOutB Ybaf.prog = true := by kernel_rfl
theorem laidOutP : laidOutB Ybaf.pinned.checked.prog = true := by kernel_rfl
theorem stops : Ybaf.pinned.checked.prog.stops = ["fmt.errorf, its operands' methods called", "fmt.Sprintf"] := by kernel_rfl
theorem stopKnobs : Ybaf.pinned.checked.prog.stopKnobs = [] := by kernel_rfl
theorem quiet (os : Os) : Stop.quiet Ybaf.pinned.checked.prog os := by
  intro k hk
  rw [stopKnobs] at hk
  cases hk

theorem add_plain (b o j : Nat) : (⟨b, o, none⟩ : Addr).add j = ⟨b, o + j, none⟩ := by unfold Addr.add; split <;> simp_all
theorem bounds_byte {z : Int} (h : (Lit.int .u8 z).wf = true) : 0 ≤ z ∧ z < 256 := by
  simp [Lit.wf, IntKind.min, IntKind.max, IntKind.signed, IntKind.bits] at h
  omega

def IsVals (w : World) (a : Option Addr) (n : Nat) : Prop :=
  ∃ (b o : Nat) (xs : Nat → Int), (0 < n → a = some ⟨b, o, none⟩ ∧ b < w.heap.size) ∧ ∀ j, j < n → w.cell? ⟨b, o + j, none⟩ = some (.int .u64 (xs j))
def IsPreds (w : World) (a : Option Addr) (n : Nat) : Prop :=
  ∃ (b o : Nat) (K S : Nat → Int), (0 < n → a = some ⟨b, o, none⟩ ∧ b < w.heap.size) ∧ (∀ j, j < n → w.cell? ⟨b, o + j * 2, none⟩ = some (.int .u8 (K j))) ∧ (∀ j, j < n → w.cell? ⟨b, o + j * 2 + 1, none⟩ = some (.int .u64 (S j))) ∧ ∀ j, j < n → 0 ≤ K j ∧ K j < 256

theorem isVals_of {H : Type} {enc : TypeId × Value → H} {W : World} {a : Option Addr} {len cap : Nat} {d : DataW H} {p : List MemPlace} (h : DataW.Trod enc Ybaf.prog W 0 (fun _ => true) true 22 (.slice a len cap) d p) : IsVals W a len := by
  obtain ⟨fuel, hf⟩ := h
  rcases open_ints Ybaf.underlying22 Ybaf.underlying23 (by kernel_rfl) hf with ⟨hcs, _⟩ | ⟨x, l, c, zs, hcs, _, hl, hm, hz, _, hcell, hwz⟩
  · simp [Value.cells] at hcs
    obtain ⟨rfl, rfl, rfl⟩ := hcs
    exact ⟨0, 0, fun _ => 0, fun h => by omega, fun j hj => by omega⟩
  · simp [Value.cells] at hcs
    obtain ⟨rfl, rfl, rfl⟩ := hcs
    have hz' : zs.length = cap := by simpa using hz
    by_cases h0 : 0 < len
    · obtain ⟨b, off, spot⟩ := x
      have hspot : spot = none := by simpa [Addr.add] using World.cell?_spot (hcell 0 (by omega))
      subst hspot
      have hc : ∀ j, j < len → W.cell? ⟨b, off + j, none⟩ = some (.int .u64 (zs.getD j 0)) := fun j hj => by rw [← add_plain]; exact hcell j (by omega)
      exact ⟨b, off, fun j => zs.getD j 0, fun _ => ⟨rfl, World.block_lt_of_cell? W _ (hc 0 h0)⟩, hc⟩
    · exact ⟨0, 0, fun _ => 0, fun h => by omega, fun j hj => by omega⟩

theorem isPreds_of {H : Type} {enc : TypeId × Value → H} {W : World} {a : Option Addr} {len cap : Nat} {d : DataW H} {p : List MemPlace} (h : DataW.Trod enc Ybaf.prog W 0 (fun _ => true) true 24 (.slice a len cap) d p) : IsPreds W a len := by
  obtain ⟨fuel, hf⟩ := h
  rcases open_slice_pairs Ybaf.underlying24 Ybaf.underlying29 (by kernel_rfl) rfl rfl (by kernel_rfl) (by kernel_rfl) hf with ⟨hcs, _⟩ | ⟨x, l, c, m, n, V0, V1, D0, D1, P0, P1, hcs, _, hl, hm, hmm, _, hr⟩
  · simp [Value.cells] at hcs
    obtain ⟨rfl, rfl, rfl⟩ := hcs
    exact ⟨0, 0, fun _ => 0, fun _ => 0, fun h => by omega, fun j hj => by omega, fun j hj => by omega, fun j hj => by omega⟩
  · simp [Value.cells] at hcs
    obtain ⟨rfl, rfl, rfl⟩ := hcs
    have hm' : m = cap := by simpa using hmm
    by_cases h0 : 0 < len
    · obtain ⟨b, off, spot⟩ := x
      have hspot : spot = none := by simpa [Addr.add] using World.cell?_spot (hr 0 (by omega)).1
      subst hspot
      have each : ∀ j, ∃ q : Int × Int, j < len → W.cell? ⟨b, off + j * 2, none⟩ = some (.int .u8 q.1) ∧ W.cell? ⟨b, off + j * 2 + 1, none⟩ = some (.int .u64 q.2) ∧ 0 ≤ q.1 ∧ q.1 < 256 := by
        intro j
        by_cases hj : j < len
        · obtain ⟨e0, e1, r0, r1⟩ := hr j (by omega)
          obtain ⟨k, ek, _, wk⟩ := DataW.trod_int Ybaf.underlying5 r0
          obtain ⟨s, es, _, ws⟩ := DataW.trod_int Ybaf.underlying23 r1
          simp only [List.cons.injEq, and_true] at ek es
          rw [add_plain, ek] at e0
          rw [add_plain, es] at e1
          exact ⟨(k, s), fun _ => ⟨e0, e1, bounds_byte wk⟩⟩
        · exact ⟨(0, 0), fun h => absurd h hj⟩
      obtain ⟨Q, hQ⟩ := Classical.axiomOfChoice each
      exact ⟨b, off, fun j => (Q j).1, fun j => (Q j).2, fun _ => ⟨rfl, World.block_lt_of_cell? W _ (hQ 0 h0).1⟩, fun j hj => (hQ j hj).1, fun j hj => (hQ j hj).2.1, fun j hj => (hQ j hj).2.2⟩
    · exact ⟨0, 0, fun _ => 0, fun _ => 0, fun h => by omega, fun j hj => by omega, fun j hj => by omega, fun j hj => by omega⟩

theorem walk (F : Interp) (av ap : Option Addr) (lv cv lp cp : Nat) (k0 q0 : Int) (ex : Bool) (w : World) (hF : F.answers w.tape) (hk0 : (Lit.int .u8 k0).wf = true) (hv : IsVals w av lv) (hp : IsPreds w ap lp) :
    Calls Ybaf.prog 3 #[.slice av lv cv, .int .u8 k0, .int .u64 q0, .bool ex, .slice ap lp cp] w fun e w' => e = .returned (.bool true) ∧ Below w.heap.size w w' := by
  by_cases hlong : 1024 < lp
  · exact agrees_long av ap lv cv lp cp k0 q0 ex w hlong
  · obtain ⟨bv, ov, xs, hv1, hv2⟩ := hv
    obtain ⟨bp, op, K, S, hp1, hp2, hp3, hp4⟩ := hp
    exact agrees_any F av ap bv ov lv cv bp op lp cp xs K S k0 q0 ex w hF (by omega) (bounds_byte hk0) hv1 hp1 hv2 hp2 hp3 hp4

set_option maxRecDepth 100000 in
theorem lifted (os : Os) (started : os.Started) (H : Type) (enc : TypeId × Value → H) :
    ReturnsInTold none {} Ybaf.checked os 3 .any Input.okWide ((OpenSpec.ofChange Rows.lawS0552CAgreesSpec).preRow enc Ybaf.prog Ybaf.f3 [] false []) (fun F => ((OpenSpec.ofChange Rows.lawS0552CAgreesSpec).at F).post enc Ybaf.prog Ybaf.f3 false true false false) (aloneAtReturn Ybaf.prog) nothingAlways := by
  refine returnsInTold_of_row (C := Ybaf.checked) (s := OpenSpec.ofChange Rows.lawS0552CAgreesSpec) (by kernel_rfl) own started (by kernel_rfl) Ybaf.func3
    (OpenSpec.witness_stopped (enc := enc) (C := Ybaf.checked) false ⟨#[], #[.slice none 0 0, .int .u8 0, .int .u64 0, .bool false, .slice none 0 0], []⟩ 8 (by kernel_rfl) (by kernel_rfl) (by kernel_rfl) (by kernel_rfl)) ?_
  intro F W base args ds gs before _ hF hval0 hW _ _ _ _ _
  have hval : ∀ (j : Nat) t v, Ybaf.f3.params[j]? = some t → args[j]? = some v → Value.okWide Ybaf.prog W .any base t v := hval0
  have hW' := hW
  obtain ⟨p, q, hA0, hV, rfl, hfz, hnd⟩ := hW
  have hA : DataW.TrodAll enc Ybaf.prog W 0 (fun _ => true) true Ybaf.f3.params.toList args.toList ds p := hA0
  rw [Ybaf.params3] at hA hval
  obtain ⟨v0, vs0, d0, ds0, p0, q0, hargs, rfl, rfl, h0, r0⟩ := trodAll_cons hA
  obtain ⟨v1, vs1, d1, ds1, p1, q1, rfl, rfl, rfl, h1, r1⟩ := trodAll_cons r0
  obtain ⟨v2, vs2, d2, ds2, p2, q2, rfl, rfl, rfl, h2, r2⟩ := trodAll_cons r1
  obtain ⟨v3, vs3, d3, ds3, p3, q3, rfl, rfl, rfl, h3, r3⟩ := trodAll_cons r2
  obtain ⟨v4, vs4, d4, ds4, p4, q4, rfl, rfl, rfl, h4, r4⟩ := trodAll_cons r3
  obtain ⟨rfl, rfl, rfl⟩ := trodAll_nil r4
  obtain rfl : args = #[v0, v1, v2, v3, v4] := by cases args; simp_all
  obtain ⟨rfl, rfl⟩ := trodVars_none hV
  obtain ⟨a0, len0, cap0, rfl⟩ := okWide_slice Ybaf.underlying22 (hval 0 22 v0 rfl rfl)
  have k0 := h0
  have lt0 : ∀ x ∈ p0, x.block < W.heap.size := by obtain ⟨m, hm⟩ := k0; exact DataW.trod_lt m _ _ _ hm
  obtain ⟨a1, rfl, rfl, rfl, w1⟩ := open_int Ybaf.underlying5 (hval 1 5 v1 rfl rfl) h1
  obtain ⟨a2, rfl, rfl, rfl, w2⟩ := open_int Ybaf.underlying23 (hval 2 23 v2 rfl rfl) h2
  obtain ⟨a3, rfl, rfl, rfl⟩ := open_bool Ybaf.underlying4 (hval 3 4 v3 rfl rfl) h3
  obtain ⟨a4, len4, cap4, rfl⟩ := okWide_slice Ybaf.underlying24 (hval 4 24 v4 rfl rfl)
  have k4 := h4
  have lt4 : ∀ x ∈ p4, x.block < W.heap.size := by obtain ⟨m, hm⟩ := k4; exact DataW.trod_lt m _ _ _ hm
  have hvv := isVals_of h0
  have hpp := isPreds_of h4
  clear hA0 hval0
  refine (walk F.told a0 a4 len0 cap0 len4 cap4 a1 a2 a3 W hF w1 hvv hpp).mono fun e W' ⟨he, bel⟩ => ?_
  subst he
  exact ⟨_, rfl, _, _, _, [], _, [], hW', trodAll_mk1 (shut_bool Ybaf.underlying4 _), (trodAll_cons_mk (Below.trod laidOut (by kernel_rfl) (of_decide_eq_true (by kernel_rfl)) k0 bel lt0) (trodAll_cons_mk (shut_int Ybaf.underlying5 w1) (trodAll_cons_mk (shut_int Ybaf.underlying23 w2) (trodAll_cons_mk (shut_bool Ybaf.underlying4 _) (trodAll_cons_mk (Below.trod laidOut (by kernel_rfl) (of_decide_eq_true (by kernel_rfl)) k4 bel lt4) trodAll_mk0))))), rfl, bel.frame _, fun h => by cases h⟩

/-- ████ THE STATEMENT ████ -/
theorem proved : Rows.LawS0552CAgreesToldSaid :=
  Claim7.holds_of_told_any 3 Ybaf.f3 "fmt.errorf, its operands' methods called" ["fmt.Sprintf"] [] _ _ _ (by kernel_rfl) rfl rfl rfl laidOutP (by kernel_rfl) rfl ⟨rfl, rfl, rfl, rfl, rfl, rfl, rfl⟩ rfl rfl (by kernel_rfl) (by kernel_rfl) Ybaf.func3 (by kernel_rfl)
    (of_decide_eq_true (by kernel_rfl)) (of_decide_eq_true (by kernel_rfl)) stops.symm rfl stopKnobs.symm (by kernel_rfl)
    (by kernel_rfl) (by kernel_rfl) (by kernel_rfl) (by kernel_rfl) (by kernel_rfl) (by kernel_rfl) (by kernel_rfl) (by kernel_rfl) (by kernel_rfl) rfl (by kernel_rfl) rfl rfl
    rfl rfl
    rfl (by kernel_rfl) (by kernel_rfl) (by kernel_rfl) (by decide) (by kernel_rfl)
    (OpenClaim.moreEntering_of (by kernel_rfl) (by kernel_rfl) (by kernel_rfl) (by kernel_rfl) (by kernel_rfl) (by kernel_rfl) (by kernel_rfl) (by kernel_rfl) (by kernel_rfl) (by kernel_rfl))
    ⟨_, WideRow.started_initial, quiet _⟩
    (fun os started _ H enc _ => lifted os started H enc)

end Go.Proofs.YbulkkkgFmt.lawS0552CAgrees
