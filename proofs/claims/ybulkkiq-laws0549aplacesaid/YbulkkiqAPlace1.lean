import Derived.Test.YbulkkiqAPlace0
namespace Go.Proofs.Ybulkkiq
open Go.RowKit Go.MuLone
set_option maxRecDepth 100000

theorem range_setCell {w : World} {b o p : Nat} {cs : List Value} (h : w.rangeAt b o cs) (v : Value) (hp : p < o ∨ o + cs.length ≤ p) : (w.setCell ⟨b, p, none⟩ v).rangeAt b o cs := fun j u hu => by
  have hj : j < cs.length := (List.getElem?_eq_some_iff.1 hu).1
  rw [World.cell?_setCell_other _ _ _ _ (fun e => by cases e; omega)]
  exact h j u hu
theorem setCell_congr {x y : World} {b o : Nat} {v : Value} (h : x.heap[b]? = y.heap[b]?) : (x.setCell ⟨b, o, none⟩ v).heap[b]? = (y.setCell ⟨b, o, none⟩ v).heap[b]? := by
  simp only [World.setCell, Array.getElem?_modify, if_true, h]

theorem Stands.locked {w : World} {nb hb mb : Nat} {sc pc : List Value} {sa : Option Addr} {n scap : Nat} (h : Stands w nb hb mb sc pc sa n scap) (hs : sc.length = 22) (v : Value) : Stands (w.setCell ⟨nb, 27, none⟩ v) nb hb mb sc pc sa n scap where
  self := range_setCell h.self v (.inr (by omega))
  pred := range_setCell h.pred v (.inl (by omega))
  succ := by rw [World.cell?_setCell_other _ _ _ _ (by simp)]; exact h.succ
  host := by rw [World.cell?_setCell_other _ _ _ _ (by simp)]; exact h.host
  kv := by rw [World.cell?_setCell_far _ _ _ _ (by simp only; exact h.apart)]; exact h.kv
  kvf := by simpa using h.kvf
  values := by rw [World.cell?_setCell_far _ _ _ _ (by simp only; exact h.apart)]; exact h.values
  nbl := by simpa using h.nbl
  hbl := by simpa using h.hbl
  mbl := by simpa using h.mbl
  apart := h.apart
  mapart := h.mapart

set_option maxHeartbeats 1600000 in
theorem place8 (nb hb mb : Nat) (sc pc : List Value) (sa : Option Addr) (n scap : Nat) (cs : List Value) (k : Int) (w : World) (hst : Stands w nb hb mb sc pc sa n scap) (hs : sc.length = 22) (hp : pc.length = 22)
    (h1s : ∀ u ∈ sc, u.oneCell' = true) (h1p : ∀ u ∈ pc, u.oneCell' = true) (hmu : w.cell? ⟨nb, 27, none⟩ = some (.int .i32 0)) (hmf : w.frozen? ⟨nb, 27, none⟩ = false) (hmn : mb ≠ nb)
    (hlen : ∀ wx : World, wx.heap[mb]? = w.heap[mb]? → (Builtin.len_ #[33] 3 #[.map (some mb)]).run Yba.prog wx = .ok (.int .i64 k) wx)
    (hcl : ∀ wx : World, (∀ j, j < w.heap.size → j ≠ nb → wx.heap[j]? = w.heap[j]?) → w.heap.size ≤ wx.heap.size → Calls Yba.prog 26 #[.slice sa n scap] wx fun e w' => (∃ a c, e = .returned (.slice a n c) ∧ CloneR w' wx.heap.size 0 n cs a) ∧ Below wx.heap.size wx w') :
    Calls Yba.prog 8 #[.pointer (some ⟨nb, 0, none⟩)] w fun e w' => (∃ a c, e = .returned (.agg (stC sc pc (.slice a n c) k).toArray) ∧ CloneR w' (w.heap.size + 1) 0 n cs a) ∧ Below w.heap.size w w' := by
  have hnb := hst.nbl
  have hmb := hst.mbl
  obtain ⟨w0, hw0⟩ : ∃ w0, w0 = w.alloc (.cells #[.int .u8 0, .int .u8 0, .int .u8 0, .int .u8 0, .int .u8 0, .int .u8 0, .int .u8 0, .int .u8 0, .int .u8 0, .int .u8 0, .int .u8 0, .int .u8 0, .int .u8 0, .int .u8 0, .int .u8 0, .int .u8 0, .int .u8 0, .int .u8 0, .int .u8 0, .int .u8 0, .int .u8 0, .string ⟨#[]⟩, .int .u8 0, .int .u8 0, .int .u8 0, .int .u8 0, .int .u8 0, .int .u8 0, .int .u8 0, .int .u8 0, .int .u8 0, .int .u8 0, .int .u8 0, .int .u8 0, .int .u8 0, .int .u8 0, .int .u8 0, .int .u8 0, .int .u8 0, .int .u8 0, .int .u8 0, .int .u8 0, .int .u8 0, .string ⟨#[]⟩, .slice none 0 0, .slice none 0 0, .int .i64 0] 64) := ⟨_, rfl⟩
  have hb0 : Below w.heap.size w w0 := by rw [hw0]; exact (Below.refl _ _).alloc (Nat.le_refl _) _
  have hz0 : w0.heap.size = w.heap.size + 1 := by rw [hw0]; simp
  have hres : w0.heap[w.heap.size]? = some (.cells #[.int .u8 0, .int .u8 0, .int .u8 0, .int .u8 0, .int .u8 0, .int .u8 0, .int .u8 0, .int .u8 0, .int .u8 0, .int .u8 0, .int .u8 0, .int .u8 0, .int .u8 0, .int .u8 0, .int .u8 0, .int .u8 0, .int .u8 0, .int .u8 0, .int .u8 0, .int .u8 0, .int .u8 0, .string ⟨#[]⟩, .int .u8 0, .int .u8 0, .int .u8 0, .int .u8 0, .int .u8 0, .int .u8 0, .int .u8 0, .int .u8 0, .int .u8 0, .int .u8 0, .int .u8 0, .int .u8 0, .int .u8 0, .int .u8 0, .int .u8 0, .int .u8 0, .int .u8 0, .int .u8 0, .int .u8 0, .int .u8 0, .int .u8 0, .string ⟨#[]⟩, .slice none 0 0, .slice none 0 0, .int .i64 0] 64 (0, 0)) := by rw [hw0]; exact heap_alloc_last w _
  have hst0 := hst.below hb0 (Nat.le_refl _)
  have hmu0 := (hb0.cell (p := ⟨nb, 27, none⟩) hnb).trans hmu
  have hmf0 := (hb0.frozen (p := ⟨nb, 27, none⟩) hnb).trans hmf
  have hst1 := hst0.locked hs (.int .i32 1)
  have e1 : ∀ j, j < w.heap.size → j ≠ nb → (w0.setCell ⟨nb, 27, none⟩ (.int .i32 1)).heap[j]? = w.heap[j]? := fun j hj hne => (setCell_other_block _ _ _ _ hne).trans (hb0.block j hj)
  have hz1 : (w0.setCell ⟨nb, 27, none⟩ (.int .i32 1)).heap.size = w.heap.size + 1 := by simp [hz0]
  have HP := hidA (place18 nb hb mb sc pc sa n scap cs k (w0.setCell ⟨nb, 27, none⟩ (.int .i32 1)) hst1 hs hp h1s h1p (fun wx hx => hlen wx (hx.trans (e1 mb hmb hmn))) (fun wx hx => hcl wx (fun j hj hne => (hx.block j (by rw [hz1]; omega)).trans (e1 j hj hne)) (by have := hx.size; rw [hz1] at this; omega)))
  have HLOCK := hidA (lock_free Yba.muLib ⟨nb, 27, none⟩ w0 hmu0 hmf0)
  have HRES := hidA hres
  have HS := hidA hs
  have HPL := hidA hp
  have H1S := hidA h1s
  have H1P := hidA h1p
  have HMU0 := hidA hmu0
  have HMF0 := hidA hmf0
  have HB0 := hidA hb0
  have HI64 := hidA (fun (a : Option Addr) (c : Nat) => (show (Yba.prog.info? 64).map (·.size) = some (stC sc pc (.slice a n c) k).length by rw [infoA64, stC_len _ _ _ _ hs hp]))
  have HE1 := hidA e1
  clear hst hs hp h1s h1p hmu hmf hlen hcl hb0 hres hst0 hmu0 hmf0 hst1 e1
  go_enter_defers Yba.func8, Yba.ntmps8
  go_upto_region 1 with fail
  rw [← hw0]
  have HW0 := hidA hw0
  clear hw0
  go_wp2_with (first
    | (go_at_call 17; refine HLOCK.out.mono ?_; rintro e w' ⟨rfl, rfl⟩)
    | (go_at_call 18; refine HP.out.mono ?_; rintro e w2 ⟨⟨a', c', rfl, hR⟩, hq⟩)
    | (refine wpList_store_row rfl 64 _ _ rfl 64 _ (stC sc pc (.slice a' n c') k).toArray w.heap.size ((hq.block _ (by rw [hz1]; omega)).trans ((setCell_other_block _ _ _ _ (by simp only; omega)).trans HRES.out)) rfl rfl (by rw [List.size_toArray]; exact HI64.out a' c') (stC_size _ _ _ _ HS.out HPL.out) (stC_one _ _ _ _ H1S.out H1P.out rfl) ?_))
  have hsr : ∀ j, j ≠ w.heap.size → (w2.setRow w.heap.size (stC sc pc (.slice a' n c') k).toArray).heap[j]? = w2.heap[j]? := fun j hj => setRow_other _ _ _ _ hj
  have hsz2 : w.heap.size < w2.heap.size := by have := hq.size; rw [hz1] at this; omega
  have hrow : (w2.setRow w.heap.size (stC sc pc (.slice a' n c') k).toArray).heap[w.heap.size]? = some (.cells (stC sc pc (.slice a' n c') k).toArray 64 (0, 0)) :=
    setRow_heap _ _ _ _ _ _ ((hq.block _ (by rw [hz1]; omega)).trans ((setCell_other_block _ _ _ _ (by simp only; omega)).trans HRES.out))
  have hssz : (w2.setRow w.heap.size (stC sc pc (.slice a' n c') k).toArray).heap.size = w2.heap.size := by simp [World.setRow]
  have hsos : (w2.setRow w.heap.size (stC sc pc (.slice a' n c') k).toArray).os = w2.os ∧ (w2.setRow w.heap.size (stC sc pc (.slice a' n c') k).toArray).tape = w2.tape ∧ (w2.setRow w.heap.size (stC sc pc (.slice a' n c') k).toArray).output = w2.output := ⟨rfl, rfl, rfl⟩
  obtain ⟨w3, hw3⟩ : ∃ w3, w3 = w2.setRow w.heap.size (stC sc pc (.slice a' n c') k).toArray := ⟨_, rfl⟩
  rw [← hw3] at hsr hrow hssz hsos ⊢
  clear hw3
  have hnb3 : w3.heap[nb]? = (w0.setCell ⟨nb, 27, none⟩ (.int .i32 1)).heap[nb]? := (hsr nb (by omega)).trans (hq.block _ (by rw [hz1]; omega))
  simp only [Act.put]
  refine leaves_cons (f := 10) (args := #[.pointer (some ⟨nb, 27, none⟩)]) (by simp) (by simp [go_sem]) ?_
  refine (unlock_deferred Yba.muLib ⟨nb, 27, none⟩ .returning _ ?_ ?_).mono ?_
  · exact (World.cell?_of_block (w := w0.setCell ⟨nb, 27, none⟩ (.int .i32 1)) hnb3).trans (World.cell?_setCell_same _ _ _ HMU0.out)
  · exact (World.frozen?_of_block (w := w0.setCell ⟨nb, 27, none⟩ (.int .i32 1)) hnb3).trans (by simpa using HMF0.out)
  rintro e u' w'' ⟨rfl, rfl, rfl⟩
  refine ⟨_, results_cell_row (by rfl) _ _ w.heap.size 64 (stC sc pc (.slice a' n c') k).toArray (0, 0) _ rfl ((setCell_other_block _ _ _ _ (by simp only; omega)).trans hrow) Yba.underlying64 rfl (by rw [List.size_toArray]; exact HI64.out a' c'), ⟨a', c', rfl, ?_⟩, ?_⟩
  · rw [hz1] at hR
    refine hR.kept (fun j h1 h2 h3 => ⟨(setCell_other_block _ _ _ _ (by simp only; omega)).trans (hsr j (by omega)), h1, h2⟩) ?_
    simp [hssz]
  · refine ⟨?_, ?_, ?_, ?_, fun j hj => ?_⟩
    · exact hsos.1.trans (hq.os.trans HB0.out.os)
    · exact hsos.2.1.trans (hq.tape.trans HB0.out.tape)
    · exact hsos.2.2.trans (hq.output.trans HB0.out.output)
    · simp [hssz]; omega
    · by_cases e : j = nb
      · subst e
        rw [setCell_congr hnb3, setCell_back _ _ _ _ _ HMU0.out]
        exact HB0.out.block _ hj
      · rw [setCell_other_block _ _ _ _ (by simp only; exact e), hsr j (by omega), hq.block j (by rw [hz1]; omega)]
        exact HE1.out j hj e

end Go.Proofs.Ybulkkiq
