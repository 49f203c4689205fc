import Derived.Test.YbulkkiqRows
import Derived.Test.YbulkkiqAMain
import Derived.Test.YbulkkiqAOpen
import Derived.WalkKit
import Derived.ProofKit
import Derived.OpenShut
import Derived.ShutString
import Derived.ChangeOld
import Derived.Below
namespace Go.Proofs.Ybulkkiq.lawS0549APlace
open Go.ChangeShapes Go.WideShapes Go.ChangeAt Go.RowKit
open Go.ChangeMaps (open_string shut_string)
set_option linter.unusedVariables false
set_option maxRecDepth 100000

theorem own : ownKnob Yba.prog.godebug = none := by kernel_rfl
theorem laidOut : laidOutB Yba.prog = true := by kernel_rfl

theorem walk (m1 m2 : Mem) (ao : Option Addr) (n c : Nat) (k : Int) (M : Nat → Mem) (w : World) (hk : (Lit.int .u16 k).wf = true) (hM : IsMems w ao n c M) (haddr : 0 < n → (M 0).addr.size ≤ 4611686018427387904) :
    Calls Yba.prog 3 #[.agg m1.cells.toArray, .agg m2.cells.toArray, .slice ao n c, .int .u16 k] w fun e w' => e = .returned (.bool true) ∧ Below w.heap.size w w' := by
  by_cases hlong : 1024 < n ∨ 1024 < k
  · exact aplace_long _ _ ao n c k w hlong m1 m2 rfl rfl
  · have h0 : 0 ≤ k := by
      have h := hk
      simp [Lit.wf, IntKind.min, IntKind.max, IntKind.signed, IntKind.bits] at h
      omega
    obtain ⟨kk, rfl⟩ := Int.eq_ofNat_of_zero_le h0
    obtain ⟨hnone, bs, os, hao, hr⟩ := hM
    exact aplace_any m1 m2 ao bs os n c kk M w (by omega) (by omega) hnone hao hr haddr

theorem addr_weight {H : Type} {el spare : List (DataW H)} {d0 d1 : DataW H} {bytes : List UInt8} (he : el[0]? = some (.agg [d0, d1, .lit (.string bytes)])) : bytes.length ∈ (DataW.slice el spare).weights Yba.prog 25 := by
  match el, he with
  | d :: r, he =>
    simp only [List.getElem?_cons_zero, Option.some.injEq] at he
    subst he
    simp [DataW.weights, Yba.underlying25, DataW.weightsAll, Yba.underlying24, DataW.weightsEach]

theorem lifted (os : Os) (started : os.Started) (H : Type) (enc : TypeId × Value → H) :
    ReturnsInHanded {} Yba.checked os 3 .any (Rows.lawS0549APlaceSpec.pre6 enc Yba.prog Yba.f3 Rows.lawS0549APlaceRow.domain false) (Rows.lawS0549APlaceSpec.post enc Yba.prog Yba.f3 false true false false) := by
  refine returnsInHanded_of_change_sized (C := Yba.checked) own started (by kernel_rfl) Yba.func3
    (ChangeSpec.witness6 (enc := enc) (C := Yba.checked) false ⟨#[], #[.agg #[.int .u8 0, .int .u8 0, .int .u8 0, .int .u8 0, .int .u8 0, .int .u8 0, .int .u8 0, .int .u8 0, .int .u8 0, .int .u8 0, .int .u8 0, .int .u8 0, .int .u8 0, .int .u8 0, .int .u8 0, .int .u8 0, .int .u8 0, .int .u8 0, .int .u8 0, .int .u8 0, .int .u8 0, .string ByteArray.empty], .agg #[.int .u8 0, .int .u8 0, .int .u8 0, .int .u8 0, .int .u8 0, .int .u8 0, .int .u8 0, .int .u8 0, .int .u8 0, .int .u8 0, .int .u8 0, .int .u8 0, .int .u8 0, .int .u8 0, .int .u8 0, .int .u8 0, .int .u8 0, .int .u8 0, .int .u8 0, .int .u8 0, .int .u8 0, .string ByteArray.empty], .slice none 0 0, .int .u16 0], []⟩ 8 (by kernel_rfl) (by kernel_rfl) (by kernel_rfl) (by kernel_rfl)) ?_
  intro W base args ds gs before hval0 hW hcnd hsz _
  have hval : ∀ (j : Nat) t v, Yba.f3.params[j]? = some t → args[j]? = some v → Value.okWide Yba.prog W .any base t v := hval0
  have hW' := hW
  obtain ⟨p, q, hA0, hV, rfl, hfz, hnd⟩ := hW
  have hA : DataW.TrodAll enc Yba.prog W 0 (fun _ => true) true Yba.f3.params.toList args.toList ds p := hA0
  have hpar := Yba.params3
  rw [Yba.params3] at hA hval
  obtain ⟨v0, vs0, d0, ds0, p0, q0, hargs, rfl, rfl, h0, r0⟩ := trodAll_cons hA
  obtain ⟨v1, vs1, d1, ds1, p1, q1, rfl, rfl, rfl, h1, r1⟩ := trodAll_cons r0
  obtain ⟨v2, vs2, d2, ds2, p2, q2, rfl, rfl, rfl, h2, r2⟩ := trodAll_cons r1
  obtain ⟨v3, vs3, d3, ds3, p3, q3, rfl, rfl, rfl, h3, r3⟩ := trodAll_cons r2
  obtain ⟨rfl, rfl, rfl⟩ := trodAll_nil r3
  obtain rfl : args = #[v0, v1, v2, v3] := by cases args; simp_all
  obtain ⟨rfl, rfl⟩ := trodVars_none hV
  have k0 := h0
  have k1 := h1
  have k2 := h2
  have lt0 : ∀ x ∈ p0, x.block < W.heap.size := by obtain ⟨m, hm⟩ := k0; exact DataW.trod_lt m _ _ _ hm
  have lt1 : ∀ x ∈ p1, x.block < W.heap.size := by obtain ⟨m, hm⟩ := k1; exact DataW.trod_lt m _ _ _ hm
  have lt2 : ∀ x ∈ p2, x.block < W.heap.size := by obtain ⟨m, hm⟩ := k2; exact DataW.trod_lt m _ _ _ hm
  obtain ⟨m1, rfl⟩ := open_mem (hval 0 24 v0 rfl rfl) h0
  obtain ⟨m2, rfl⟩ := open_mem (hval 1 24 v1 rfl rfl) h1
  obtain ⟨ao, n, c, rfl⟩ := okWide_slice Yba.underlying25 (hval 2 25 v2 rfl rfl)
  obtain ⟨a3, rfl, rfl, rfl, w3⟩ := open_int Yba.underlying26 (hval 3 26 v3 rfl rfl) h3
  obtain ⟨M, hM, hD⟩ := isMems_of h2
  have haddr : 0 < n → (M 0).addr.size ≤ 4611686018427387904 := fun hn => by
    obtain ⟨el, spare, e0, e1, rfl, he⟩ := hD 0 hn
    have hw := List.all_eq_true.1 hsz _ (DataW.weights_mem_each (j := 2) (t := 25) (by rfl) (by rfl) _ (addr_weight he))
    have hr := reachBytes_lt
    simp only [decide_eq_true_eq] at hw
    have : (M 0).addr.data.toList.length = (M 0).addr.size := Array.length_toList
    omega
  clear hA0 hval0
  refine (walk m1 m2 ao n c a3 M W w3 hM haddr).mono fun e W' ⟨he, bel⟩ => ?_
  subst he
  exact ⟨_, rfl, _, _, _, [], _, [], hW', trodAll_mk1 (shut_bool Yba.underlying4 _),
    (trodAll_cons_mk (Below.trod laidOut (by kernel_rfl) (of_decide_eq_true (by kernel_rfl)) k0 bel lt0) (trodAll_cons_mk (Below.trod laidOut (by kernel_rfl) (of_decide_eq_true (by kernel_rfl)) k1 bel lt1)
      (trodAll_cons_mk (Below.trod laidOut (by kernel_rfl) (of_decide_eq_true (by kernel_rfl)) k2 bel lt2) (trodAll_cons_mk (shut_int Yba.underlying26 w3) trodAll_mk0)))),
    rfl, bel.frame _, fun h => by cases h⟩

theorem over : Rows.lawS0549APlaceRow.holds Yba.pinned (OpenSpec.ofChange Rows.lawS0549APlaceSpec) :=
  OpenClaim.holds_of_wide 3 Yba.f3 rfl rfl rfl rfl rfl rfl rfl ⟨rfl, rfl, rfl, rfl, rfl⟩ rfl rfl rfl rfl rfl (by kernel_rfl) Yba.func3 (by kernel_rfl)
    (of_decide_eq_true (by kernel_rfl)) (by unfold Func.isWrapper; first | (rw [if_pos (by decide +kernel)]; kernel_rfl) | (rw [if_neg (by decide +kernel)]; exact ⟨rfl, rfl⟩))
    (fun os started H enc _ => lifted os started H enc)

/-- THE STATEMENT -/
theorem proved : Rows.LawS0549APlaceSaid := over
end Go.Proofs.Ybulkkiq.lawS0549APlace
