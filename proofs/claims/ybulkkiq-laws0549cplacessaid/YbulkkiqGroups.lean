import Derived.Test.YbulkkiqIds
import Derived.Maps.OwnSet
import Derived.Maps.AppendAt
import Derived.Deep.AppendLies
namespace Go.Proofs.Ybulkkiq
open Go.RowKit Go.Lib Go.Maps Go.WideMaps

theorem law9 : Keyed Yba.prog 9 := string_keyed Yba.underlying9
theorem zero71 (w : World) : (zeroValue 71).run Yba.prog w = .ok (.slice none 0 0) w := by kernel_rfl

/-- A map's element, held as the value that it is. -/
def tokR (v : Value) : Option (DataW Value × List MemPlace) := some (.held v, [])

/-- f, but v at k. -/
def upd {α : Type} (f : List UInt8 → α) (k : List UInt8) (v : α) : List UInt8 → α := fun x => if x = k then v else f x
theorem upd_same {α : Type} (f : List UInt8 → α) (k : List UInt8) (v : α) : upd f k v k = v := by simp [upd]
theorem upd_other {α : Type} (f : List UInt8 → α) {k x : List UInt8} (v : α) (h : x ≠ k) : upd f k v x = f x := by simp [upd, h]

/-- Block B is a map of at most n entries whose element at key k is the slice V k; each owns the strings L k in a row from 'base' on; no two keys' slices lie in one row. -/
structure Groups (w : World) (base B n : Nat) (D : DataW Value) (V : List UInt8 → Value) (L : List UInt8 → List ByteArray) : Prop where
  own : w.ownsMap Yba.prog 9 tokR B n D
  val : ∀ k, D.atKey (.string k) (.held (.slice none 0 0)) = .held (V k)
  row : ∀ k, w.ownsRow base 9 1 (V k) (L k).length ((L k).map Value.string)
  apart : ∀ k k', k ≠ k' → (V k).ownBlock = none ∨ (V k).ownBlock ≠ (V k').ownBlock
  lt : B < base

theorem Groups.made (w : World) : Groups (w.alloc (.map #[] 0)) (w.heap.size + 1) w.heap.size 0 (.map []) (fun _ => .slice none 0 0) (fun _ => []) where
  own := World.ownsMap_made _ _ _ _
  val := fun _ => rfl
  row := fun _ => World.ownsRow_nil _ _ _ _
  apart := fun _ _ _ => .inl rfl
  lt := Nat.lt_succ_self _

variable {w : World} {base B n : Nat} {D : DataW Value} {V : List UInt8 → Value} {L : List UInt8 → List ByteArray}

/-- The look-up. -/
theorem Groups.look (h : Groups w base B n D V L) (s : ByteArray) (hs : s.size ≤ maxLen) : (Instr.lookup 73 (.map (some B)) (.string s) false).run Yba.prog w = .ok (V s.data.toList) w := by
  obtain ⟨v, ps, hrun, hv⟩ := h.own.lookup (t := 73) (e := 71) law9 Yba.underlying73 (zero71 w) (zd := .held (.slice none 0 0)) (zp := []) rfl (keyOf_string_mk Yba.underlying9 hs)
  rw [h.val] at hv
  simp only [tokR, Option.some.injEq, Prod.mk.injEq, DataW.held.injEq] at hv
  rw [← hv.1]
  exact hrun

/-- Other blocks are written and new ones are made. -/
theorem Groups.kept {w' : World} (h : Groups w base B n D V L) (hg : w.grownBy w' none) : Groups w' base B n D V L where
  own := h.own.kept hg (by simp)
  val := h.val
  row := fun k => (h.row k).kept hg (by cases (V k).ownBlock <;> simp)
  apart := h.apart
  lt := h.lt
theorem Groups.below {w' : World} {b : Nat} (h : Groups w base B n D V L) (hb : Below b w w') (hsz : w.heap.size ≤ b) : Groups w' base B n D V L :=
  h.kept ⟨hb.os, hb.tape, hb.output, hb.size, fun k hk _ => hb.block k (by omega)⟩

/-- THE STORE at a key, behind whatever was done to that key's own row and to new blocks. -/
theorem Groups.put {w1 : World} {v' : Value} {l' : List ByteArray} (h : Groups w base B n D V L) (s : ByteArray) (hs : s.size ≤ maxLen) (hn : n < maxLen)
    (hg : w.grownBy w1 (V s.data.toList).ownBlock) (hown' : w1.ownsRow base 9 1 v' l'.length (l'.map Value.string))
    (hloc : v'.ownBlock = (V s.data.toList).ownBlock ∨ ∃ g, v'.ownBlock = some g ∧ w.heap.size ≤ g) :
    ∃ w2, (Instr.mapUpdate 73 (.map (some B)) (.string s) v').run Yba.prog w1 = .ok () w2 ∧
      Groups w2 base B (n + 1) (D.put (.string s.data.toList) (.held v')) (upd V s.data.toList v') (upd L s.data.toList l') ∧ w1.grownBy w2 (some B) := by
  have hvb : ∀ {u : Value} {l : List ByteArray} {wx : World}, wx.ownsRow base 9 1 u l.length (l.map Value.string) → u.ownBlock = none ∨ u.ownBlock ≠ some B := fun {u l wx} ho => by
    cases hu : u.ownBlock with
    | none => exact .inl rfl
    | some g =>
      refine .inr fun e => ?_
      have := (ho.lt g hu).1
      have := h.lt
      cases e
      omega
  have hB : some B ≠ (V s.data.toList).ownBlock := by
    rcases hvb (h.row s.data.toList) with e | e
    · rw [e]; simp
    · exact fun e' => e e'.symm
  have hkey := keyOf_string_mk Yba.underlying9 hs
  obtain ⟨w2, hrun, ho2, hg2⟩ := (h.own.kept hg hB).update (t := 73) (e := 71) law9 Yba.underlying73 hn hkey (d := .held v') (ps := []) rfl
  refine ⟨w2, hrun, ⟨ho2, ?_, ?_, ?_, h.lt⟩, hg2⟩
  · intro k
    by_cases e : k = s.data.toList
    · subst e
      rw [upd_same, atKey_put_same h.own.isMap (law9.key hkey)]
    · rw [upd_other V v' e, atKey_put_other (by simpa using e), h.val]
  · intro k
    by_cases e : k = s.data.toList
    · subst e
      rw [upd_same, upd_same]
      exact hown'.kept hg2 (hvb hown')
    · rw [upd_other V v' e, upd_other L l' e]
      have h1 := (h.row k).kept hg (h.apart k _ e)
      exact h1.kept hg2 (hvb h1)
  · have far : ∀ k, k ≠ s.data.toList → (V k).ownBlock = none ∨ (V k).ownBlock ≠ v'.ownBlock := by
      intro k e
      rcases hloc with e1 | ⟨g, e1, e2⟩
      · rw [e1]; exact h.apart k _ e
      · cases hx : (V k).ownBlock with
        | none => exact .inl rfl
        | some gx =>
          have := ((h.row k).lt gx hx).2
          refine .inr fun e3 => ?_
          rw [e1] at e3
          cases e3
          omega
    intro k k' hne
    by_cases e : k = s.data.toList
    · by_cases e' : k' = s.data.toList
      · exact absurd (e.trans e'.symm) hne
      · rw [e, upd_same, upd_other V v' e']
        rcases far k' e' with h1 | h1
        · cases hv : v'.ownBlock with
          | none => exact .inl rfl
          | some g => exact .inr (by rw [h1]; simp)
        · exact .inr (fun h2 => h1 h2.symm)
    · rw [upd_other V v' e]
      by_cases e' : k' = s.data.toList
      · rw [e', upd_same]
        exact far k e
      · rw [upd_other V v' e']
        exact h.apart k k' hne

end Go.Proofs.Ybulkkiq
