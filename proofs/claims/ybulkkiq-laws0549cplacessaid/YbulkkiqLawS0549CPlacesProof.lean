import Derived.Test.YbulkkiqRows
import Derived.Test.YbulkkiqCLong
import Derived.WalkKit
import Derived.ProofKit
import Derived.OpenShut
import Derived.ShutString
import Derived.ChangeOld
import Derived.Below
import Derived.SliceStrings
namespace Go.Proofs.Ybulkkiq.lawS0549CPlaces
open Go.ChangeShapes Go.WideShapes Go.ChangeAt Go.RowKit
open Go.ChangeMaps (open_string shut_string)
set_option linter.unusedVariables false

theorem own : ownKnob Yba.prog.godebug = none := by kernel_rfl
theorem laidOut : laidOutB Yba.prog = true := by kernel_rfl

/-- What the walk is told of a slice of strings that came in. -/
def IsStrs (w : World) (a : Option Addr) (len : Nat) (ss : List ByteArray) : Prop :=
  len ≤ ss.length ∧ (∀ s ∈ ss, s.size ≤ maxLen) ∧ (0 < len → ∃ b off, a = some ⟨b, off, none⟩ ∧ b < w.heap.size ∧ ∀ j, j < ss.length → w.cell? ⟨b, off + j, none⟩ = some (.string (ss.getD j ByteArray.empty)))

theorem walk (xs : List Int) (bits : Nat) (addr : ByteArray) (ak av : Option Addr) (lk ck lv cv : Nat) (q : Bool) (ks vs : List ByteArray) (w : World) (hx : xs.length = 20) (hr : ∀ i, i < 20 → 0 ≤ xs.getD i 0 ∧ xs.getD i 0 < 256) (hb : bits < 256)
    (hk : IsStrs w ak lk ks) (hv : IsStrs w av lv vs) :
    Calls Yba.prog 5 #[.agg (xs.map (Value.int .u8)).toArray, .int .u8 bits, .string addr, .slice ak lk ck, .slice av lv cv, .bool q] w fun e w' => e = .returned (.bool true) ∧ Below w.heap.size w w' := by
  by_cases hlong : 1024 < lk ∨ 1024 < lv
  · exact cp_long _ _ _ _ ak av lk ck lv cv _ w rfl hlong
  have h1 : lk ≤ 1024 := by omega
  have h2 : lv ≤ 1024 := by omega
  obtain ⟨c, hc⟩ : ∃ c, bits % 161 = c := ⟨_, rfl⟩
  cases q
  · -- the map is made and filled
    obtain ⟨n, hn⟩ : ∃ n, n = if lv < lk then lv else lk := ⟨_, rfl⟩
    have hnk : n ≤ lk := by rw [hn]; split <;> omega
    have hnv : n ≤ lv := by rw [hn]; split <;> omega
    obtain ⟨bk, ok, fk⟩ : ∃ b off, 0 < n → (ak = some ⟨b, off, none⟩ ∧ b < w.heap.size ∧ ∀ j, j < ks.length → w.cell? ⟨b, off + j, none⟩ = some (.string (ks.getD j ByteArray.empty))) := by
      by_cases h0 : 0 < n
      · obtain ⟨b, off, h⟩ := hk.2.2 (by omega)
        exact ⟨b, off, fun _ => h⟩
      · exact ⟨0, 0, fun h => absurd h h0⟩
    obtain ⟨bv, ov, fv⟩ : ∃ b off, 0 < n → (av = some ⟨b, off, none⟩ ∧ b < w.heap.size ∧ ∀ j, j < vs.length → w.cell? ⟨b, off + j, none⟩ = some (.string (vs.getD j ByteArray.empty))) := by
      by_cases h0 : 0 < n
      · obtain ⟨b, off, h⟩ := hv.2.2 (by omega)
        exact ⟨b, off, fun _ => h⟩
      · exact ⟨0, 0, fun h => absurd h h0⟩
    by_cases h0 : c = 0
    · exact cp_zero xs bits addr ak av bk ok bv ov lk ck lv cv n ks vs w hx hb (by omega) h1 h2 hn (fun h => (fk h).1) (fun h => (fv h).1) hk.1 hv.1 (fun h => (fk h).2.1) (fun h => (fv h).2.1) (fun h => (fk h).2.2) (fun h => (fv h).2.2) hk.2.1
    · exact cp_pos xs bits c addr ak av bk ok bv ov lk ck lv cv n ks vs w hx hr hb hc (by omega) h1 h2 hn (fun h => (fk h).1) (fun h => (fv h).1) hk.1 hv.1 (fun h => (fk h).2.1) (fun h => (fv h).2.1) (fun h => (fk h).2.2) (fun h => (fv h).2.2) hk.2.1
  · by_cases h0 : c = 0
    · exact cp_nil_zero xs bits addr ak av lk ck lv cv w hx hb (by omega) h1 h2
    · exact cp_nil_pos xs bits c addr ak av lk ck lv cv w hx hr hb hc (by omega) h1 h2

theorem isStrs_of {H : Type} {enc : TypeId × Value → H} {W : World} {a : Option Addr} {len cap : Nat} {d : DataW H} {p : List MemPlace} (h : DataW.Trod enc Yba.prog W 0 (fun _ => true) true 71 (.slice a len cap) d p) (lt : ∀ x ∈ p, x.block < W.heap.size) : ∃ ss, IsStrs W a len ss := by
  obtain ⟨fuel, hf⟩ := h
  rcases open_strings Yba.underlying71 Yba.underlying9 (by kernel_rfl) hf with ⟨hcs, _⟩ | ⟨x, l, c, ss, hcs, _, hl, hm, hz, hx, hcell, hwz⟩
  · simp [Value.cells] at hcs
    obtain ⟨rfl, rfl, rfl⟩ := hcs
    exact ⟨[], Nat.le_refl _, by simp, fun h => absurd h (by omega)⟩
  · simp [Value.cells] at hcs
    obtain ⟨rfl, rfl, rfl⟩ := hcs
    simp only [if_true] at hz
    refine ⟨ss, by omega, hwz, fun h0 => ?_⟩
    obtain ⟨b, off, spot⟩ := x
    have hspot : spot = none := by simpa [Addr.add] using World.cell?_spot (hcell 0 (by omega))
    subst hspot
    have hc' : ∀ j, j < ss.length → W.cell? ⟨b, off + j, none⟩ = some (.string (ss.getD j ByteArray.empty)) := fun j hj => by rw [← add_plain]; exact hcell j hj
    exact ⟨b, off, rfl, World.block_lt_of_cell? W _ (hc' 0 (by omega)), hc'⟩

set_option maxRecDepth 100000 in
theorem lifted (os : Os) (started : os.Started) (H : Type) (enc : TypeId × Value → H) :
    ReturnsInHanded {} Yba.checked os 5 .any (Rows.lawS0549CPlacesSpec.pre6 enc Yba.prog Yba.f5 Rows.lawS0549CPlacesRow.domain false) (Rows.lawS0549CPlacesSpec.post enc Yba.prog Yba.f5 false true false false) := by
  refine returnsInHanded_of_change (C := Yba.checked) own started (by kernel_rfl) Yba.func5
    (ChangeSpec.witness6 (enc := enc) (C := Yba.checked) false ⟨#[], #[.agg #[.int .u8 0, .int .u8 0, .int .u8 0, .int .u8 0, .int .u8 0, .int .u8 0, .int .u8 0, .int .u8 0, .int .u8 0, .int .u8 0, .int .u8 0, .int .u8 0, .int .u8 0, .int .u8 0, .int .u8 0, .int .u8 0, .int .u8 0, .int .u8 0, .int .u8 0, .int .u8 0], .int .u8 0, .string ByteArray.empty, .slice none 0 0, .slice none 0 0, .bool false], []⟩ 8 (by kernel_rfl) (by kernel_rfl) (by kernel_rfl) (by kernel_rfl)) ?_
  intro W base args ds gs before hval0 hW hcnd _
  have hval : ∀ (j : Nat) t v, Yba.f5.params[j]? = some t → args[j]? = some v → Value.okWide Yba.prog W .any base t v := hval0
  have hW' := hW
  obtain ⟨p, q, hA0, hV, rfl, hfz, hnd⟩ := hW
  have hA : DataW.TrodAll enc Yba.prog W 0 (fun _ => true) true Yba.f5.params.toList args.toList ds p := hA0
  rw [Yba.params5] at hA hval
  obtain ⟨v0, vs0, d0, ds0, p0, q0, hargs, rfl, rfl, h0, r0⟩ := trodAll_cons hA
  obtain ⟨v1, vs1, d1, ds1, p1, q1, rfl, rfl, rfl, h1, r1⟩ := trodAll_cons r0
  obtain ⟨v2, vs2, d2, ds2, p2, q2, rfl, rfl, rfl, h2, r2⟩ := trodAll_cons r1
  obtain ⟨v3, vs3, d3, ds3, p3, q3, rfl, rfl, rfl, h3, r3⟩ := trodAll_cons r2
  obtain ⟨v4, vs4, d4, ds4, p4, q4, rfl, rfl, rfl, h4, r4⟩ := trodAll_cons r3
  obtain ⟨v5, vs5, d5, ds5, p5, q5, rfl, rfl, rfl, h5, r5⟩ := trodAll_cons r4
  obtain ⟨rfl, rfl, rfl⟩ := trodAll_nil r5
  obtain rfl : args = #[v0, v1, v2, v3, v4, v5] := by cases args; simp_all
  obtain ⟨rfl, rfl⟩ := trodVars_none hV
  have k0 := h0
  have k3 := h3
  have k4 := h4
  have lt0 : ∀ x ∈ p0, x.block < W.heap.size := by obtain ⟨m, hm⟩ := k0; exact DataW.trod_lt m _ _ _ hm
  have lt3 : ∀ x ∈ p3, x.block < W.heap.size := by obtain ⟨m, hm⟩ := k3; exact DataW.trod_lt m _ _ _ hm
  have lt4 : ∀ x ∈ p4, x.block < W.heap.size := by obtain ⟨m, hm⟩ := k4; exact DataW.trod_lt m _ _ _ hm
  obtain ⟨xs, rfl, hxl, hxr⟩ := open_bytes20 (hval 0 22 v0 rfl rfl) h0
  obtain ⟨a1, rfl, rfl, rfl, w1⟩ := open_int Yba.underlying5 (hval 1 5 v1 rfl rfl) h1
  obtain ⟨s2, rfl, rfl, rfl, hs2⟩ := open_string Yba.underlying9 (hval 2 9 v2 rfl rfl) h2
  obtain ⟨ak, lk, ck, rfl⟩ := okWide_slice Yba.underlying71 (hval 3 71 v3 rfl rfl)
  obtain ⟨av, lv, cv, rfl⟩ := okWide_slice Yba.underlying71 (hval 4 71 v4 rfl rfl)
  obtain ⟨b5, rfl, rfl, rfl⟩ := open_bool Yba.underlying4 (hval 5 4 v5 rfl rfl) h5
  obtain ⟨ks, hks⟩ := isStrs_of k3 lt3
  obtain ⟨vs, hvs⟩ := isStrs_of k4 lt4
  have hb1 := bounds_u8 w1
  obtain ⟨bits, rfl⟩ := Int.eq_ofNat_of_zero_le hb1.1
  clear hA0 hval0
  refine (walk xs bits s2 ak av lk ck lv cv b5 ks vs W hxl hxr (by omega) hks hvs).mono fun e W' ⟨he, bel⟩ => ?_
  subst he
  exact ⟨_, rfl, _, _, _, [], _, [], hW', trodAll_mk1 (shut_bool Yba.underlying4 _),
    (trodAll_cons_mk (Below.trod laidOut (by kernel_rfl) (of_decide_eq_true (by kernel_rfl)) k0 bel lt0) (trodAll_cons_mk (shut_int Yba.underlying5 w1) (trodAll_cons_mk (shut_string Yba.underlying9 hs2)
      (trodAll_cons_mk (Below.trod laidOut (by kernel_rfl) (of_decide_eq_true (by kernel_rfl)) k3 bel lt3) (trodAll_cons_mk (Below.trod laidOut (by kernel_rfl) (of_decide_eq_true (by kernel_rfl)) k4 bel lt4) (trodAll_cons_mk (shut_bool Yba.underlying4 _) trodAll_mk0)))))),
    rfl, bel.frame _, fun h => by cases h⟩

theorem over : Rows.lawS0549CPlacesRow.holds Yba.pinned (OpenSpec.ofChange Rows.lawS0549CPlacesSpec) :=
  OpenClaim.holds_of_wide 5 Yba.f5 rfl rfl rfl rfl rfl rfl rfl ⟨rfl, rfl, rfl, rfl, rfl⟩ rfl rfl rfl rfl rfl (by kernel_rfl) Yba.func5 (by kernel_rfl)
    (of_decide_eq_true (by kernel_rfl)) (by unfold Func.isWrapper; first | (rw [if_pos (by decide +kernel)]; kernel_rfl) | (rw [if_neg (by decide +kernel)]; exact ⟨rfl, rfl⟩))
    (fun os started H enc _ => lifted os started H enc)

/-- THE STATEMENT -/
theorem proved : Rows.LawS0549CPlacesSaid := over
end Go.Proofs.Ybulkkiq.lawS0549CPlaces
