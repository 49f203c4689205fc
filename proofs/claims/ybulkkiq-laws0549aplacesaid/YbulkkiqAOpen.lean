import Derived.Test.YbulkkiqALaw
import Derived.ProofKit
import Derived.OpenShut
import Derived.SizedLaws
import Derived.Deep.Slices
namespace Go.Proofs.Ybulkkiq
open Go.ChangeShapes Go.WideShapes Go.ChangeAt Go.RowKit Go.Deep
set_option maxRecDepth 100000

theorem bytes_of_cellsA (l : List Value) (h : ∀ i, i < l.length → ∃ z, l[i]? = some (.int .u8 z)) : ∃ xs : List Int, l = xs.map (Value.int .u8) := by
  refine ⟨l.map RowKit.intOf, ?_⟩
  apply List.ext_getElem?
  intro i
  rw [List.getElem?_map, List.getElem?_map]
  by_cases hi : i < l.length
  · obtain ⟨z, hz⟩ := h i hi
    rw [hz]
    rfl
  · rw [List.getElem?_eq_none (by omega)]
    rfl

variable {H : Type} {enc : TypeId × Value → H} {w : World} {base fuel : Nat} {sp : Nat → Bool} {held : Bool}

theorem mem_of_cells {cs : List Value} {x : DataW H × List MemPlace} (h : DataW.trod enc Yba.prog w base sp held fuel 24 cs = some x) : ∃ (m : Mem) (d0 d1 : DataW H), cs = m.cells ∧ x.1 = .agg [d0, d1, .lit (.string m.addr.data.toList)] := by
  have c24 : Yba.prog.cellsOf 24 = 22 := by kernel_rfl
  have c22 : Yba.prog.cellsOf 22 = 20 := by kernel_rfl
  have c5 : Yba.prog.cellsOf 5 = 1 := by kernel_rfl
  have c9 : Yba.prog.cellsOf 9 = 1 := by kernel_rfl
  obtain ⟨xs, n, _, rfl, hl, hlen, hf⟩ := DataW.trod_struct Yba.underlying24 h
  rw [c24] at hl
  have h0 : DataW.trod enc Yba.prog w base sp held n 22 ((cs.drop 0).take (Yba.prog.cellsOf 22)) = xs[0]? := hf 0 _ rfl
  have h1 : DataW.trod enc Yba.prog w base sp held n 5 ((cs.drop 20).take (Yba.prog.cellsOf 5)) = xs[1]? := hf 1 _ rfl
  have h2 : DataW.trod enc Yba.prog w base sp held n 9 ((cs.drop 21).take (Yba.prog.cellsOf 9)) = xs[2]? := hf 2 _ rfl
  rw [c22] at h0
  rw [c5] at h1
  rw [c9] at h2
  match xs, hlen with
  | [y0, y1, y2], _ =>
    simp only [List.getElem?_cons_zero, List.getElem?_cons_succ] at h0 h1 h2
    obtain ⟨ys, m, _, _, hl2, hn, he⟩ := DataW.trod_array Yba.underlying22 h0
    rw [c5] at he
    obtain ⟨b, eb, _, _⟩ := DataW.trod_int Yba.underlying5 h1
    obtain ⟨s, es, e2, _⟩ := DataW.trod_string Yba.underlying9 h2
    have htl : ((cs.drop 0).take 20).length = 20 := by simp [hl]
    obtain ⟨zs, hzs⟩ := bytes_of_cellsA ((cs.drop 0).take 20) (fun i hi => by
      rw [htl] at hi
      have := he i hi
      rw [List.getElem?_eq_getElem (show i < ys.length by omega), Nat.mul_one, List.drop_eq_getElem_cons (by rw [htl]; exact hi)] at this
      simp only [List.take_succ_cons, List.take_zero] at this
      obtain ⟨z, ez, _, wz⟩ := DataW.trod_int Yba.underlying5 this
      refine ⟨z, ?_⟩
      rw [List.getElem?_eq_getElem (by rw [htl]; exact hi)]
      simpa using ez)
    have hzl : zs.length = 20 := by
      have := congrArg List.length hzs
      rw [htl, List.length_map] at this
      exact this.symm
    refine ⟨⟨zs, b, s, hzl⟩, y0.1, y1.1, ?_, ?_⟩
    · have e0 : cs = (cs.drop 0).take 20 ++ ((cs.drop 20).take 1 ++ (cs.drop 21).take 1) := by
        have t1 : (cs.drop 21).take 1 = cs.drop 21 := List.take_of_length_le (by simp [hl])
        have t2 : (cs.drop 20).take 1 ++ cs.drop 21 = cs.drop 20 := by
          rw [show cs.drop 21 = (cs.drop 20).drop 1 by rw [List.drop_drop]]
          exact List.take_append_drop 1 _
        rw [t1, t2, List.drop_zero]
        exact (List.take_append_drop 20 cs).symm
      rw [e0, hzs, eb, es]
      simp [Mem.cells, pcells]
    · simp only [List.map_cons, List.map_nil]
      rw [e2]

/-- A member that came in by value. -/
theorem open_mem {r : Reach} {b0 : Nat} {v : Value} {d : DataW H} {p : List MemPlace} (hv : Value.okWide Yba.prog w r b0 24 v) (h : DataW.Trod enc Yba.prog w base sp held 24 v d p) : ∃ m : Mem, v = .agg m.cells.toArray := by
  obtain ⟨cs, rfl, _⟩ := okWide_struct Yba.underlying24 hv
  obtain ⟨fuel, hf⟩ := h
  obtain ⟨m, _, _, hm, _⟩ := mem_of_cells hf
  refine ⟨m, ?_⟩
  have e : (Value.agg cs).cells.toList = cs.toList := rfl
  rw [e] at hm
  rw [← hm]

/-- The members of a slice that came in. -/
def IsMems (w : World) (a : Option Addr) (n c : Nat) (M : Nat → Mem) : Prop :=
  (a = none → n = 0 ∧ c = 0) ∧ ∃ bs os, (0 < n → a = some ⟨bs, os, none⟩ ∧ bs < w.heap.size) ∧ ∀ i, i < n → w.rangeAt bs (os + i * 22) (M i).cells
def mem0 : Mem := ⟨List.replicate 20 0, 0, ByteArray.empty, by simp⟩

theorem isMems_of {a : Option Addr} {len cap : Nat} {d : DataW H} {p : List MemPlace} (h : DataW.Trod enc Yba.prog w 0 (fun _ => true) true 25 (.slice a len cap) d p) :
    ∃ M : Nat → Mem, IsMems w a len cap M ∧ ∀ i, i < len → ∃ (el spare : List (DataW H)) (d0 d1 : DataW H), d = .slice el spare ∧ el[i]? = some (.agg [d0, d1, .lit (.string (M i).addr.data.toList)]) := by
  have c24 : Yba.prog.cellsOf 24 = 22 := by kernel_rfl
  obtain ⟨fuel, hf⟩ := h
  rcases open_slice Yba.underlying25 hf with ⟨hcs, _⟩ | ⟨x, l, c, m, n, D, Pl, hcs, _, hl, hm, hmm, hx, hr⟩
  · simp [Value.cells] at hcs
    obtain ⟨rfl, rfl, rfl⟩ := hcs
    exact ⟨fun _ => mem0, ⟨fun _ => ⟨rfl, rfl⟩, 0, 0, fun h => by omega, fun i hi => by omega⟩, fun i hi => by omega⟩
  · simp [Value.cells] at hcs
    obtain ⟨rfl, rfl, rfl⟩ := hcs
    rw [c24] at hr
    have hm' : m = cap := by simpa using hmm
    have each : ∀ i, ∃ mi : Mem, i < len → (∀ j v, mi.cells[j]? = some v → w.cell? (x.add (i * 22 + j)) = some v) ∧ ∃ d0 d1, D i = .agg [d0, d1, .lit (.string mi.addr.data.toList)] := by
      intro i
      by_cases hi : i < len
      · obtain ⟨cs', h1, h2⟩ := hr i (by omega)
        obtain ⟨mi, d0, d1, e1, e2⟩ := mem_of_cells h2
        refine ⟨mi, fun _ => ⟨fun j v hj => ?_, d0, d1, e2⟩⟩
        rw [e1] at h1
        have hj' : j < 22 := by
          have := (List.getElem?_eq_some_iff.1 hj).1
          rw [mi.cells_len] at this
          exact this
        have := (World.cells?_some h1).2.2 j hj'
        rw [hj, Addr.add_add] at this
        exact this
      · exact ⟨mem0, fun h => absurd h hi⟩
    obtain ⟨M, hM⟩ := Classical.axiomOfChoice each
    refine ⟨M, ⟨fun h => (by cases h), ?_⟩, fun i hi => ?_⟩
    · by_cases h0 : 0 < len
      · obtain ⟨b, off, spot⟩ := x
        have hc0 := (hM 0 h0).1 0 _ (List.getElem?_eq_getElem (by rw [(M 0).cells_len]; omega))
        rw [Nat.zero_mul, Nat.zero_add] at hc0
        have hspot : spot = none := by simpa [Addr.add] using World.cell?_spot hc0
        subst hspot
        refine ⟨b, off, fun _ => ⟨rfl, ?_⟩, fun i hi j v hj => ?_⟩
        · have := World.block_lt_of_cell? w _ hc0
          simpa [Addr.add] using this
        · have := (hM i hi).1 j v hj
          rw [Addr.add_mid] at this
          rw [Nat.add_assoc]
          exact this
      · exact ⟨0, 0, fun h => absurd h h0, fun i hi => by omega⟩
    · obtain ⟨d0, d1, e⟩ := (hM i hi).2
      have hd : d = .slice ((List.range len).map D) ((List.range (m - len)).map fun j => D (len + j)) := congrArg Prod.fst hx
      refine ⟨_, _, d0, d1, hd, ?_⟩
      rw [List.getElem?_map, List.getElem?_range hi]
      exact congrArg some e

end Go.Proofs.Ybulkkiq
