import Derived.Test.YbulkkkgFmtDue
import Derived.Maps.OwnSet
import Derived.Maps.OwnOps
import Derived.Maps.AppendAt
import Derived.Deep.RegionHeldLaw
namespace Go.Proofs.YbulkkkgFmt
open Go.RowKit Go.Maps Go.WideMaps Go.Extern.Stop Go.Stop Go.Extern

theorem law9 : Keyed Ybaf.prog 9 := string_keyed Ybaf.underlying9
theorem zero23 (w : World) : (zeroValue 23).run Ybaf.prog w = .ok (.int .u64 0) w := by kernel_rfl

/-- A map's element, held as the value that it is. -/
def tokR (v : Value) : Option (DataW Value × List MemPlace) := some (.held v, [])

/-- Block B is a map of at most n entries whose element at key k is V k. -/
structure Cnt (w : World) (B n : Nat) (D : DataW Value) (V : List UInt8 → Int) : Prop where
  own : w.ownsMap Ybaf.prog 9 tokR B n D
  val : ∀ k, D.atKey (.string k) (.held (.int .u64 0)) = .held (.int .u64 (V k))

theorem Cnt.made (w : World) : Cnt (w.alloc (.map #[] 0)) w.heap.size 0 (.map []) (fun _ => 0) where
  own := World.ownsMap_made _ _ _ _
  val := fun _ => rfl

variable {w : World} {B n : Nat} {D : DataW Value} {V : List UInt8 → Int}

theorem Cnt.look (h : Cnt w B n D V) (s : ByteArray) (hs : s.size ≤ maxLen) : (Instr.lookup 25 (.map (some B)) (.string s) false).run Ybaf.prog w = .ok (.int .u64 (V s.data.toList)) w := by
  obtain ⟨v, ps, hrun, hv⟩ := h.own.lookup (t := 25) (e := 23) law9 Ybaf.underlying25 (zero23 w) (zd := .held (.int .u64 0)) (zp := []) rfl (keyOf_string_mk Ybaf.underlying9 hs)
  rw [h.val] at hv
  simp only [tokR, Option.some.injEq, Prod.mk.injEq, DataW.held.injEq] at hv
  rw [← hv.1]
  exact hrun

theorem Cnt.below {w' : World} {b : Nat} (h : Cnt w B n D V) (hb : Below b w w') (hsz : w.heap.size ≤ b) : Cnt w' B n D V where
  own := h.own.kept (show w.grownBy w' none from ⟨hb.os, hb.tape, hb.output, hb.size, fun k hk _ => hb.block k (by omega)⟩) (by simp)
  val := h.val

theorem Cnt.put (h : Cnt w B n D V) (s : ByteArray) (x : Int) (hs : s.size ≤ maxLen) (hn : n < maxLen) :
    ∃ w2 D' V', (Instr.mapUpdate 25 (.map (some B)) (.string s) (.int .u64 x)).run Ybaf.prog w = .ok () w2 ∧ Cnt w2 B (n + 1) D' V' ∧ w.grownBy w2 (some B) := by
  have hkey := keyOf_string_mk Ybaf.underlying9 hs
  obtain ⟨w2, hrun, ho2, hg2⟩ := h.own.update (t := 25) (e := 23) law9 Ybaf.underlying25 hn hkey (d := .held (.int .u64 x)) (ps := []) rfl
  refine ⟨w2, _, fun k => if k = s.data.toList then x else V k, hrun, ⟨ho2, ?_⟩, hg2⟩
  intro k
  by_cases e : k = s.data.toList
  · subst e
    rw [if_pos rfl, atKey_put_same h.own.isMap (law9.key hkey)]
  · rw [if_neg e, atKey_put_other (by simpa using e), h.val]

/-- The small table of names. -/
def nm (k : Int) : ByteArray := if k % 4 = 0 then ⟨#[97]⟩ else if k % 4 = 1 then ⟨#[98]⟩ else if k % 4 = 2 then ⟨#[99]⟩ else ⟨#[100]⟩
theorem nm_size (k : Int) : (nm k).size ≤ maxLen := by
  unfold nm
  split <;> (try split) <;> (try split) <;> decide

theorem name4 (k : Int) (w : World) (hk : 0 ≤ k ∧ k < 256) : Calls Ybaf.prog 4 #[.int .u8 k] w fun e w' => e = .returned (.string (nm k)) ∧ w' = w := by
  by_cases h0 : k % 4 = 0
  · have e : nm k = ⟨#[97]⟩ := by simp [nm, h0]
    rw [e]
    go_enter Ybaf.func4, Ybaf.ntmps4
    go_wp2
    go_ret
    exact ⟨rfl, rfl⟩
  by_cases h1 : k % 4 = 1
  · have e : nm k = ⟨#[98]⟩ := by simp [nm, h1]
    rw [e]
    clear h0
    go_enter Ybaf.func4, Ybaf.ntmps4
    go_wp2
    go_ret
    exact ⟨rfl, rfl⟩
  by_cases h2 : k % 4 = 2
  · have e : nm k = ⟨#[99]⟩ := by simp [nm, h2]
    rw [e]
    clear h0 h1
    go_enter Ybaf.func4, Ybaf.ntmps4
    go_wp2
    go_ret
    exact ⟨rfl, rfl⟩
  · have h3 : k % 4 = 3 := by omega
    have e : nm k = ⟨#[100]⟩ := by simp [nm, h3]
    rw [e]
    clear h0 h1 h2
    go_enter Ybaf.func4, Ybaf.ntmps4
    go_wp2
    go_ret
    exact ⟨rfl, rfl⟩

end Go.Proofs.YbulkkkgFmt
