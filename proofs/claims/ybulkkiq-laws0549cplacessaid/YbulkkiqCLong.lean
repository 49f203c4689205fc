import Derived.Test.YbulkkiqCPos
import Derived.Test.YbulkkiqCNil
import Derived.OpenShut
namespace Go.Proofs.Ybulkkiq
open Go.RowKit Go.Lib Go.Maps Go.WideMaps

set_option maxRecDepth 100000 in
set_option maxHeartbeats 1000000 in
theorem cp_long (v0 v1 v2 : Value) (cs : Array Value) (ak av : Option Addr) (lk ck lv cv : Nat) (v5 : Value) (w : World) (h0 : v0 = .agg cs) (h : 1024 < lk ∨ 1024 < lv) :
    Calls Yba.prog 5 #[v0, v1, v2, .slice ak lk ck, .slice av lv cv, v5] w fun e w' => e = .returned (.bool true) ∧ Below w.heap.size w w' := by
  subst h0
  by_cases hk : 1024 < lk
  · have hk' : (1024 : Int) < (lk : Int) := by omega
    go_enter Yba.func5, Yba.ntmps5
    go_wp2
    go_ret
    exact ⟨rfl, (Below.refl _ _).alloc (Nat.le_refl _) _⟩
  · have hv' : (1024 : Int) < (lv : Int) := by omega
    go_enter Yba.func5, Yba.ntmps5
    go_wp2
    go_ret
    exact ⟨rfl, (Below.refl _ _).alloc (Nat.le_refl _) _⟩

/-- A list of cells, each a byte. -/
theorem bytes_of_cells (l : List Value) (h : ∀ i, i < l.length → ∃ z, l[i]? = some (.int .u8 z) ∧ (Lit.int .u8 z).wf = true) : ∃ xs : List Int, l = xs.map (Value.int .u8) ∧ ∀ i, i < l.length → 0 ≤ xs.getD i 0 ∧ xs.getD i 0 < 256 := by
  refine ⟨l.map RowKit.intOf, ?_, fun i hi => ?_⟩
  · apply List.ext_getElem?
    intro i
    rw [List.getElem?_map, List.getElem?_map]
    by_cases hi : i < l.length
    · obtain ⟨z, hz, _⟩ := h i hi
      rw [hz]
      rfl
    · rw [List.getElem?_eq_none (by omega)]
      rfl
  · obtain ⟨z, hz, wz⟩ := h i hi
    have e : (l.map RowKit.intOf).getD i 0 = z := by
      rw [List.getD_eq_getElem?_getD, List.getElem?_map, hz]
      rfl
    rw [e]
    have := bounds_u8 wz
    omega

set_option maxRecDepth 100000 in
theorem open_bytes20 {H : Type} {enc : TypeId × Value → H} {w : World} {r : Reach} {b0 base : Nat} {sp : Nat → Bool} {held : Bool} {v : Value} {d : DataW H} {p : List MemPlace} (hv : Value.okWide Yba.prog w r b0 22 v) (h : DataW.Trod enc Yba.prog w base sp held 22 v d p) :
    ∃ xs : List Int, v = .agg (xs.map (Value.int .u8)).toArray ∧ xs.length = 20 ∧ ∀ i, i < 20 → 0 ≤ xs.getD i 0 ∧ xs.getD i 0 < 256 := by
  have c5 : Yba.prog.cellsOf 5 = 1 := by kernel_rfl
  have c22 : Yba.prog.cellsOf 22 = 20 := by kernel_rfl
  unfold Value.okWide at hv
  rw [Yba.underlying22] at hv
  obtain ⟨cs, rfl, hsz, _⟩ := hv
  rw [c22] at hsz
  obtain ⟨fuel, hf⟩ := h
  obtain ⟨ys, m, _, _, hl, hn, he⟩ := DataW.trod_array Yba.underlying22 hf
  have hc : (Value.agg cs).cells.toList = cs.toList := rfl
  rw [hc] at he
  rw [c5] at he
  obtain ⟨xs, hxs, hb⟩ := bytes_of_cells cs.toList (fun i hi => by
    have hi20 : i < 20 := by simpa [hsz] using hi
    have := he i hi20
    rw [List.getElem?_eq_getElem (show i < ys.length by omega), Nat.mul_one, List.drop_eq_getElem_cons hi] at this
    simp only [List.take_succ_cons, List.take_zero] at this
    obtain ⟨z, ez, _, wz⟩ := DataW.trod_int Yba.underlying5 this
    simp at ez
    refine ⟨z, ?_, wz⟩
    rw [List.getElem?_eq_getElem hi]
    simpa using ez)
  refine ⟨xs, ?_, ?_, fun i hi => hb i (by simpa [hsz] using hi)⟩
  · rw [← hxs]
  · have := congrArg List.length hxs
    simp [hsz] at this
    omega

end Go.Proofs.Ybulkkiq
