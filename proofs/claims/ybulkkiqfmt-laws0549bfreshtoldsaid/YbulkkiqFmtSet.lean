-- MINE
import Derived.Test.YbulkkiqFmtRest
import Derived.Deep.CutBlock
namespace Go.Proofs.YbulkkiqFmt
open Go.RowKit Go.MuLone Go.Shelf
open Go.Extern.Stop (cell)
set_option maxRecDepth 100000
set_option linter.unusedSimpArgs false
set_option linter.unusedVariables false

theorem yieldsIf_eql {ops : Array Oper} {S : World → Prop} {o : Oper} {a : Act} (y z : UInt8) (b : Bool) (hb : (y == z) = b) (hw : Region.wanted o (yielded ops a.tmps) = true) (x1 x2 : Operand) (hop : o.op = Op.binOp .eql 25 x1 x2 25)
    (hx : a.eval x1 = .agg (idC y).toArray) (hy : a.eval x2 = .agg (idC z).toArray) : YieldsIf Ybaf.prog ops S o (.bool b) a :=
  .inl ⟨hw, fun w _ => by
    have h1 : (eqGuard .eql 25 x1 x2 (.agg (idC y).toArray) (.agg (idC z).toArray)).run Ybaf.prog w = .ok () w := eqID.2 .eql x1 x2 y z w
    have h2 : (binOp .eql 25 (.agg (idC y).toArray) (.agg (idC z).toArray)).run Ybaf.prog w = .ok (.bool b) w := by rw [← hb]; exact eqID.1 y z w
    unfold execOp
    simp only [hop, hx, hy, Sem.run_bind, h1, h2, Result.andThen_ok, Sem.run_pure]⟩

theorem node_peer {w : World} {nb : Nat} {x : UInt8} {r : Int} {hb : Nat} {st mu su fi ru : Value} {ch : Int} {t : TypeId} (h : w.heap[nb]? = some (.cells (nodeF x r hb st mu su fi ru ch).toArray t (0, 0))) : w.rangeAt nb 0 (peerC x) := fun j v hv =>
  row_range h j v (by
    rw [nodeF, List.getElem?_append_left (List.getElem?_eq_some_iff.1 hv).1]
    exact hv)
theorem node_at {w : World} {nb : Nat} {x : UInt8} {r : Int} {hb : Nat} {st mu su fi ru : Value} {ch : Int} {t : TypeId} (h : w.heap[nb]? = some (.cells (nodeF x r hb st mu su fi ru ch).toArray t (0, 0))) (p : Nat) (u : Value) (hu : (nodeF x r hb st mu su fi ru ch).toArray[p]? = some u) : w.cell? ⟨nb, p, none⟩ = some u := by
  simp only [World.cell?, h]
  exact hu
theorem node_free {w : World} {nb : Nat} {cs : Array Value} {t : TypeId} (h : w.heap[nb]? = some (.cells cs t (0, 0))) (p : Nat) : w.frozen? ⟨nb, p, none⟩ = false := by
  simp [World.frozen?, h]

set_option maxHeartbeats 12800000 in
theorem set18 (nb : Nat) (x : UInt8) (r : Int) (hb : Nat) (st fi ru : Value) (gs : Nat) (y : UInt8) (ra : Option Addr) (rg ro m rcap : Nat) (ys : Nat → UInt8) (w : World)
    (hN : w.heap[nb]? = some (.cells (nodeF x r hb st (.int .i32 0) (.slice (some ⟨gs, 0, none⟩) 1 1) fi ru 0).toArray 60 (0, 0))) (hG : w.heap[gs]? = some (.cells (peerC x).toArray 54 (0, 0)))
    (hyx : y ≠ x) (hm : m ≤ 16) (hra : 0 < m → ra = some ⟨rg, ro, none⟩ ∧ rg < w.heap.size) (hys : ∀ j, j < m → w.rangeAt rg (ro + j * 22) (peerC (ys j))) :
    Calls Ybaf.prog 18 #[.pointer (some ⟨nb, 0, none⟩), .agg (peerC y).toArray, .slice ra m rcap] w fun e w' => e = .returned (.tuple #[]) ∧
      (∃ su, w'.heap[nb]? = some (.cells (nodeF x r hb st (.int .i32 0) su fi ru 1).toArray 60 (0, 0))) ∧ w.grownBy w' (some nb) := by
  have hnb : nb < w.heap.size := (Array.getElem?_eq_some_iff.1 hN).1
  have hgs : gs < w.heap.size := (Array.getElem?_eq_some_iff.1 hG).1
  have HN := hide hN
  have HG := hide hG
  have HRA := hide hra
  have HYS := hide hys
  have HYX := hide hyx
  have HI54 := hide (fun z : UInt8 => (show (Ybaf.prog.info? 54).map (·.size) = some (peerC z).length by rw [info54, peerC_len]))
  have HR0 := hide (range_new w (peerC y) 54)
  have HOW0 : Hid (((w.alloc (.cells (peerC y).toArray 54)).alloc (.cells (peerC y).toArray 54)).ownsRow (w.heap.size + 1) 54 22 (.slice (some ⟨w.heap.size + 1, 0, none⟩) 1 1) 1 (rowP [y])) := by
    have := World.ownsRow_lit (base := w.heap.size + 1) (e := 54) (size := 22) (w.alloc (.cells (peerC y).toArray 54)) (peerC y).toArray 1 (by simp) (by unfold maxLen; omega) (by rw [List.size_toArray, peerC_len])
    rw [World.size_alloc] at this
    have e : rowP [y] = peerC y := by simp [rowP]
    rw [e]
    exact this
  clear hN hG hra hys hyx
  go_enter Ybaf.func18, Ybaf.ntmps18
  go_upto_block 0 with (first
    | (refine wpList_load_mid rfl 54 _ rfl w.heap.size 0 rfl (peerC y) _ HR0.out Ybaf.underlying54 rfl (HI54.out y) ?_)
    | (refine wpList_bslice1 rfl 58 1 0 _ rfl (.agg (peerC y).toArray) rfl _ (bslice58 y _) ?_))
  (try simp only [Act.put, List.setIfInBounds_toArray, List.set_cons_zero, List.set_cons_succ])
  go_cut [6] (fun s wc => ∃ (g cap : Nat) (zs : List UInt8), s = .slice (some ⟨g, 0, none⟩) (y :: zs).length cap ∧ zs.length ≤ 16 ∧ (∀ p u, (rowP (y :: zs))[p]? = some u → wc.cell? ⟨g, p, none⟩ = some u) ∧ g ≠ nb ∧ Below w.heap.size w wc)
  case first =>
    go_wp2_with fail
    go_loopw [6, 14] (fun v i wr => ∃ (j : Nat) (zs : List UInt8), j ≤ m ∧ i = .int .i64 j ∧ zs.length ≤ j ∧ wr.ownsRow (w.heap.size + 1) 54 22 v (y :: zs).length (rowP (y :: zs)) ∧ Below w.heap.size w wr ∧ w.heap.size + 1 ≤ wr.heap.size) (fun _ i _ => m - (intOf i).toNat)
    case atStart => exact ⟨0, [], Nat.zero_le _, rfl, Nat.le_refl _, HOW0.out, ((Below.refl _ _).alloc (Nat.le_refl _) _).alloc (by simp) _, by simp⟩
    case round =>
      obtain ⟨j, zs, hj, rfl, hzl, hown, hbel, hsz⟩ := hrel
      obtain ⟨g, cap, rfl, hg1, hg2⟩ := hown.form (by simp)
      have HOWN := hide hown
      have HBEL := hide hbel
      have hcells : ∀ p u, (rowP (y :: zs))[p]? = some u → wr.cell? ⟨g, p, none⟩ = some u := fun p u hu => by
        have hp : p < (rowP (y :: zs)).length := (List.getElem?_eq_some_iff.1 hu).1
        rw [rowP_len] at hp
        rw [hown.cellAt p hp]
        exact hu
      have HCE := hide hcells
      clear hown hbel hcells
      by_cases hlt : j < m
      · have t1 : (j : Int) < (m : Int) := by omega
        obtain ⟨era, hrg⟩ := HRA.out (by omega)
        subst era
        obtain ⟨z, hz⟩ : ∃ z, z = ys j := ⟨_, rfl⟩
        have HZ := hide hz
        have HRZ : Hid (wr.rangeAt rg (ro + j * 22) (peerC z)) := by rw [hz]; exact range_of_below (HYS.out j hlt) HBEL.out hrg
        have HNEW := hide (range_new wr (peerC z) 54)
        clear hz
        have HC24 := hide (some24 (y :: zs) g cap wr.heap.size z (wr.alloc (.cells (peerC z).toArray 54)) HNEW.out (by simp) (by simp; omega) (fun p u hu => (World.cell?_alloc_past _ g _ hg2).trans (HCE.out p u hu)) (by simp; omega))
        simp only [List.length_cons] at HC24
        go_upto_region 6 with (first
          | (refine wpList_load_mid rfl 54 _ rfl rg (ro + j * 22) rfl (peerC z) _ HRZ.out Ybaf.underlying54 rfl (HI54.out z) ?_)
          | (refine wpList_store_new rfl 54 _ _ rfl 54 _ _ _ (by simp) rfl rfl (by rw [List.size_toArray]; exact HI54.out z) (by simp [peerC_len]) (all_oneCell_toArray (peerC_one z)) ?_)
          | (go_at_call 24; refine HC24.out.mono ?_; rintro e w5 ⟨⟨b9, rfl⟩, hb5⟩))
        have hz5 : wr.heap.size < w5.heap.size := by have := hb5.size; rw [World.size_alloc] at this; omega
        have hB5 : Below w.heap.size w w5 := (HBEL.out.alloc (by omega) (.cells (peerC z).toArray 54)).trans (hb5.mono (by rw [World.size_alloc]; omega))
        have HB5 := hide hB5
        have HNEW5 := hide (range_of_below HNEW.out hb5 (by simp))
        have HCE5 : Hid (∀ p u, (rowP (y :: zs))[p]? = some u → w5.cell? ⟨g, p, none⟩ = some u) := fun p u hu => (hb5.cell (p := ⟨g, p, none⟩) (by simp; omega)).trans ((World.cell?_alloc_past _ g _ hg2).trans (HCE.out p u hu))
        have HOW5 := hide ((HOWN.out.alloc (.cells (peerC z).toArray 54)).kept (show World.grownBy _ w5 none from ⟨hb5.os, hb5.tape, hb5.output, hb5.size, fun k hk _ => hb5.block k hk⟩) (Classical.em _))
        have HN5 : Hid (w5.heap[nb]? = some (.cells (nodeF x r hb st (.int .i32 0) (.slice (some ⟨gs, 0, none⟩) 1 1) fi ru 0).toArray 60 (0, 0))) := (hB5.block nb hnb).trans HN.out
        have HS6 : Hid (w5.drew.cell? ⟨nb, 22, none⟩ = some (.int .i64 r) ∧ w5.drew.rangeAt wr.heap.size 0 (idC z) ∧ w5.drew.rangeAt nb 0 (idC x)) :=
          ⟨node_at HN5.out 22 _ rfl, peer_id HNEW5.out, peer_id (node_peer HN5.out)⟩
        have HI25z := hide (show (Ybaf.prog.info? 25).map (·.size) = some (idC z).length by rw [info25, idC_len])
        have HI25x := hide (show (Ybaf.prog.info? 25).map (·.size) = some (idC x).length by rw [info25, idC_len])
        clear hb5 hB5 HC24
        go_cut [40] (fun s wc => (∃ b : Bool, s = .bool b) ∧ wc = w5.drew)
        case first =>
          by_cases hr : ((zs.length + 1 : Nat) : Int) = r
          · have hd : decide ((((zs.length + 1 : Nat) : Int)) = r) = true := decide_eq_true hr
            have hd2 : (((zs.length + 1 : Nat) : Int) == r) = true := by simpa using hr
            refine wp_region_held_drew (S := fun wx => wx.cell? ⟨nb, 22, none⟩ = some (.int .i64 r) ∧ wx.rangeAt wr.heap.size 0 (idC z) ∧ wx.rangeAt nb 0 (idC x)) (by kernel_rfl) HS6.out (fun hHeld => ?_)
            refine wpAnyH_take (i := 0) (oi := _) (v := ?_) rfl (by kernel_rfl) (by kernel_rfl) (by kernel_rfl) (fun _ _ _ h => h) (Or.inl ⟨by rfl, ?_⟩) (by assumption) ?_
            rotate_left
            · intro w hSw
              (try dsimp only at hSw)
              go_simp
              (try with_reducible rfl)
            (try simp only [List.getElem_toArray, List.getElem_cons_succ, List.getElem_cons_zero, Act.put, List.setIfInBounds_toArray, List.set_cons_zero, List.set_cons_succ])
            refine wpAnyH_take (i := 1) (oi := _) (v := ?_) rfl (by kernel_rfl) (by kernel_rfl) (by kernel_rfl) (fun _ _ _ h => h) (Or.inl ⟨by rfl, ?_⟩) (by assumption) ?_
            rotate_left
            · intro w hSw
              (try dsimp only at hSw)
              go_simp
              (try with_reducible rfl)
            (try simp only [List.getElem_toArray, List.getElem_cons_succ, List.getElem_cons_zero, Act.put, List.setIfInBounds_toArray, List.set_cons_zero, List.set_cons_succ])
            refine wpAnyH_take (i := 2) (oi := _) (v := ?_) rfl (by kernel_rfl) (by kernel_rfl) (by kernel_rfl) (fun _ _ _ h => h) (Or.inl ⟨by rfl, ?_⟩) (by assumption) ?_
            rotate_left
            · intro w hSw
              (try dsimp only at hSw)
              go_simp
              (try with_reducible rfl)
            (try simp only [List.getElem_toArray, List.getElem_cons_succ, List.getElem_cons_zero, Act.put, List.setIfInBounds_toArray, List.set_cons_zero, List.set_cons_succ])
            refine wpAnyH_take (i := 3) (oi := _) (v := ?_) rfl (by kernel_rfl) (by kernel_rfl) (by kernel_rfl) (fun _ _ _ h => h) (Or.inl ⟨by rfl, ?_⟩) (by assumption) ?_
            rotate_left
            · intro w hSw
              (try dsimp only at hSw)
              go_simp
              (try with_reducible rfl)
            (try simp only [List.getElem_toArray, List.getElem_cons_succ, List.getElem_cons_zero, Act.put, List.setIfInBounds_toArray, List.set_cons_zero, List.set_cons_succ])
            refine wpAnyH_take (i := 4) (oi := _) (v := ?_) rfl (by kernel_rfl) (by kernel_rfl) (by kernel_rfl) (fun _ _ _ h => h) (Or.inl ⟨by rfl, ?_⟩) (by assumption) ?_
            rotate_left
            · intro w hSw
              (try dsimp only at hSw)
              go_simp
              (try with_reducible rfl)
            (try simp only [List.getElem_toArray, List.getElem_cons_succ, List.getElem_cons_zero, Act.put, List.setIfInBounds_toArray, List.set_cons_zero, List.set_cons_succ])
            refine wpAnyH_take (i := 5) (oi := _) (v := ?_) rfl (by kernel_rfl) (by kernel_rfl) (by kernel_rfl) (fun _ _ _ h => h) (Or.inl ⟨by rfl, ?_⟩) (by assumption) ?_
            rotate_left
            · intro w hSw
              obtain ⟨hS1, _, _⟩ := hSw
              go_simp
              (try with_reducible rfl)
            (try simp only [List.getElem_toArray, List.getElem_cons_succ, List.getElem_cons_zero, Act.put, List.setIfInBounds_toArray, List.set_cons_zero, List.set_cons_succ])
            refine wpAnyH_take (i := 6) (oi := _) (v := ?_) rfl (by kernel_rfl) (by kernel_rfl) (by kernel_rfl) (fun _ _ _ h => h) (Or.inl ⟨by rfl, ?_⟩) (by assumption) ?_
            rotate_left
            · intro w hSw
              (try dsimp only at hSw)
              go_simp
              (try with_reducible rfl)
            (try simp only [List.getElem_toArray, List.getElem_cons_succ, List.getElem_cons_zero, Act.put, List.setIfInBounds_toArray, List.set_cons_zero, List.set_cons_succ])
            refine wpAnyH_take (i := 7) (oi := _) (v := ?_) rfl (by kernel_rfl) (by kernel_rfl) (by kernel_rfl) (fun _ _ _ h => h) (Or.inl ⟨by rfl, ?_⟩) (by assumption) ?_
            rotate_left
            · intro w hSw
              (try dsimp only at hSw)
              go_simp
              (try with_reducible rfl)
            (try simp only [List.getElem_toArray, List.getElem_cons_succ, List.getElem_cons_zero, Act.put, List.setIfInBounds_toArray, List.set_cons_zero, List.set_cons_succ])
            refine wpAnyH_take (i := 8) (oi := _) (v := undef) rfl (by kernel_rfl) (by kernel_rfl) (by kernel_rfl) (fun _ _ _ h => h) (Or.inr ⟨by rfl, rfl⟩) (by assumption) ?_
            (try simp only [List.getElem_toArray, List.getElem_cons_succ, List.getElem_cons_zero, Act.put, List.setIfInBounds_toArray, List.set_cons_zero, List.set_cons_succ])
            refine wpAnyH_take (i := 9) (oi := _) (v := undef) rfl (by kernel_rfl) (by kernel_rfl) (by kernel_rfl) (fun _ _ _ h => h) (Or.inr ⟨by rfl, rfl⟩) (by assumption) ?_
            (try simp only [List.getElem_toArray, List.getElem_cons_succ, List.getElem_cons_zero, Act.put, List.setIfInBounds_toArray, List.set_cons_zero, List.set_cons_succ])
            refine wpAnyH_take (i := 10) (oi := _) (v := undef) rfl (by kernel_rfl) (by kernel_rfl) (by kernel_rfl) (fun _ _ _ h => h) (Or.inr ⟨by rfl, rfl⟩) (by assumption) ?_
            (try simp only [List.getElem_toArray, List.getElem_cons_succ, List.getElem_cons_zero, Act.put, List.setIfInBounds_toArray, List.set_cons_zero, List.set_cons_succ])
            refine wpAnyH_take (i := 11) (oi := _) (v := undef) rfl (by kernel_rfl) (by kernel_rfl) (by kernel_rfl) (fun _ _ _ h => h) (Or.inr ⟨by rfl, rfl⟩) (by assumption) ?_
            (try simp only [List.getElem_toArray, List.getElem_cons_succ, List.getElem_cons_zero, Act.put, List.setIfInBounds_toArray, List.set_cons_zero, List.set_cons_succ])
            refine wpAnyH_take (i := 12) (oi := _) (v := undef) rfl (by kernel_rfl) (by kernel_rfl) (by kernel_rfl) (fun _ _ _ h => h) (Or.inr ⟨by rfl, rfl⟩) (by assumption) ?_
            (try simp only [List.getElem_toArray, List.getElem_cons_succ, List.getElem_cons_zero, Act.put, List.setIfInBounds_toArray, List.set_cons_zero, List.set_cons_succ])
            refine wpAnyH_take (i := 13) (oi := _) (v := undef) rfl (by kernel_rfl) (by kernel_rfl) (by kernel_rfl) (fun _ _ _ h => h) (Or.inr ⟨by rfl, rfl⟩) (by assumption) ?_
            (try simp only [List.getElem_toArray, List.getElem_cons_succ, List.getElem_cons_zero, Act.put, List.setIfInBounds_toArray, List.set_cons_zero, List.set_cons_succ])
            refine wpAnyH_take (i := 14) (oi := _) (v := undef) rfl (by kernel_rfl) (by kernel_rfl) (by kernel_rfl) (fun _ _ _ h => h) (Or.inr ⟨by rfl, rfl⟩) (by assumption) ?_
            (try simp only [List.getElem_toArray, List.getElem_cons_succ, List.getElem_cons_zero, Act.put, List.setIfInBounds_toArray, List.set_cons_zero, List.set_cons_succ])
            refine wpAnyH_take (i := 15) (oi := _) (v := undef) rfl (by kernel_rfl) (by kernel_rfl) (by kernel_rfl) (fun _ _ _ h => h) (Or.inr ⟨by rfl, rfl⟩) (by assumption) ?_
            (try simp only [List.getElem_toArray, List.getElem_cons_succ, List.getElem_cons_zero, Act.put, List.setIfInBounds_toArray, List.set_cons_zero, List.set_cons_succ])
            refine wpAnyH_take (i := 16) (oi := _) (v := ?_) rfl (by kernel_rfl) (by kernel_rfl) (by kernel_rfl) (fun _ _ _ h => h) (Or.inl ⟨by rfl, ?_⟩) (by assumption) ?_
            rotate_left
            · intro w hSw
              (try dsimp only at hSw)
              go_simp
              (try with_reducible rfl)
            (try simp only [List.getElem_toArray, List.getElem_cons_succ, List.getElem_cons_zero, Act.put, List.setIfInBounds_toArray, List.set_cons_zero, List.set_cons_succ])
            refine wpAnyH_take (i := 17) (oi := _) (v := ?_) rfl (by kernel_rfl) (by kernel_rfl) (by kernel_rfl) (fun _ _ _ h => h) (Or.inl ⟨by rfl, ?_⟩) (by assumption) ?_
            rotate_left
            · intro w hSw
              (try dsimp only at hSw)
              go_simp
              (try with_reducible rfl)
            (try simp only [List.getElem_toArray, List.getElem_cons_succ, List.getElem_cons_zero, Act.put, List.setIfInBounds_toArray, List.set_cons_zero, List.set_cons_succ])
            refine wpAnyH_take (i := 18) (oi := _) (v := undef) rfl (by kernel_rfl) (by kernel_rfl) (by kernel_rfl) (fun _ _ _ h => h) (Or.inr ⟨by rfl, rfl⟩) (by assumption) ?_
            (try simp only [List.getElem_toArray, List.getElem_cons_succ, List.getElem_cons_zero, Act.put, List.setIfInBounds_toArray, List.set_cons_zero, List.set_cons_succ])
            refine wpAnyH_take (i := 19) (oi := _) (v := ?_) rfl (by kernel_rfl) (by kernel_rfl) (by kernel_rfl) (fun _ _ _ h => h) (Or.inl ⟨by rfl, ?_⟩) (by assumption) ?_
            rotate_left
            · intro w hSw
              (try dsimp only at hSw)
              go_simp
              (try with_reducible rfl)
            (try simp only [List.getElem_toArray, List.getElem_cons_succ, List.getElem_cons_zero, Act.put, List.setIfInBounds_toArray, List.set_cons_zero, List.set_cons_succ])
            refine wpAnyH_done (by kernel_rfl) ?_ _
            go_wp2_with fail
            go_meet
            exact ⟨⟨_, rfl⟩, rfl⟩
          · have hd : decide ((((zs.length + 1 : Nat) : Int)) = r) = false := decide_eq_false hr
            have hd2 : (((zs.length + 1 : Nat) : Int) == r) = false := by simpa using hr
            have hr3 : ¬ ((zs.length : Int) + 1 = r) := by omega
            have hd3 : decide ((zs.length : Int) + 1 = r) = false := decide_eq_false hr3
            have hd4 : ((zs.length : Int) + 1 == r) = false := by simpa using hr3
            cases hzx : (z == x) with
            | true =>
              have HZX := hide hzx
              clear hzx
              refine wp_region_held_drew (S := fun wx => wx.cell? ⟨nb, 22, none⟩ = some (.int .i64 r) ∧ wx.rangeAt wr.heap.size 0 (idC z) ∧ wx.rangeAt nb 0 (idC x)) (by kernel_rfl) HS6.out (fun hHeld => ?_)
              refine wpAnyH_take (i := 0) (oi := _) (v := ?_) rfl (by kernel_rfl) (by kernel_rfl) (by kernel_rfl) (fun _ _ _ h => h) (Or.inl ⟨by rfl, ?_⟩) (by assumption) ?_
              rotate_left
              · intro w hSw
                (try dsimp only at hSw)
                go_simp
                (try with_reducible rfl)
              (try simp only [List.getElem_toArray, List.getElem_cons_succ, List.getElem_cons_zero, Act.put, List.setIfInBounds_toArray, List.set_cons_zero, List.set_cons_succ])
              refine wpAnyH_take (i := 1) (oi := _) (v := ?_) rfl (by kernel_rfl) (by kernel_rfl) (by kernel_rfl) (fun _ _ _ h => h) (Or.inl ⟨by rfl, ?_⟩) (by assumption) ?_
              rotate_left
              · intro w hSw
                (try dsimp only at hSw)
                go_simp
                (try with_reducible rfl)
              (try simp only [List.getElem_toArray, List.getElem_cons_succ, List.getElem_cons_zero, Act.put, List.setIfInBounds_toArray, List.set_cons_zero, List.set_cons_succ])
              refine wpAnyH_take (i := 2) (oi := _) (v := ?_) rfl (by kernel_rfl) (by kernel_rfl) (by kernel_rfl) (fun _ _ _ h => h) (Or.inl ⟨by rfl, ?_⟩) (by assumption) ?_
              rotate_left
              · intro w hSw
                (try dsimp only at hSw)
                go_simp
                (try with_reducible rfl)
              (try simp only [List.getElem_toArray, List.getElem_cons_succ, List.getElem_cons_zero, Act.put, List.setIfInBounds_toArray, List.set_cons_zero, List.set_cons_succ])
              refine wpAnyH_take (i := 3) (oi := _) (v := ?_) rfl (by kernel_rfl) (by kernel_rfl) (by kernel_rfl) (fun _ _ _ h => h) (Or.inl ⟨by rfl, ?_⟩) (by assumption) ?_
              rotate_left
              · intro w hSw
                (try dsimp only at hSw)
                go_simp
                (try with_reducible rfl)
              (try simp only [List.getElem_toArray, List.getElem_cons_succ, List.getElem_cons_zero, Act.put, List.setIfInBounds_toArray, List.set_cons_zero, List.set_cons_succ])
              refine wpAnyH_take (i := 4) (oi := _) (v := ?_) rfl (by kernel_rfl) (by kernel_rfl) (by kernel_rfl) (fun _ _ _ h => h) (Or.inl ⟨by rfl, ?_⟩) (by assumption) ?_
              rotate_left
              · intro w hSw
                (try dsimp only at hSw)
                go_simp
                (try with_reducible rfl)
              (try simp only [List.getElem_toArray, List.getElem_cons_succ, List.getElem_cons_zero, Act.put, List.setIfInBounds_toArray, List.set_cons_zero, List.set_cons_succ])
              refine wpAnyH_take (i := 5) (oi := _) (v := ?_) rfl (by kernel_rfl) (by kernel_rfl) (by kernel_rfl) (fun _ _ _ h => h) (Or.inl ⟨by rfl, ?_⟩) (by assumption) ?_
              rotate_left
              · intro w hSw
                obtain ⟨hS1, _, _⟩ := hSw
                go_simp
                (try with_reducible rfl)
              (try simp only [List.getElem_toArray, List.getElem_cons_succ, List.getElem_cons_zero, Act.put, List.setIfInBounds_toArray, List.set_cons_zero, List.set_cons_succ])
              refine wpAnyH_take (i := 6) (oi := _) (v := ?_) rfl (by kernel_rfl) (by kernel_rfl) (by kernel_rfl) (fun _ _ _ h => h) (Or.inl ⟨by rfl, ?_⟩) (by assumption) ?_
              rotate_left
              · intro w hSw
                (try dsimp only at hSw)
                go_simp
                (try with_reducible rfl)
              (try simp only [List.getElem_toArray, List.getElem_cons_succ, List.getElem_cons_zero, Act.put, List.setIfInBounds_toArray, List.set_cons_zero, List.set_cons_succ])
              refine wpAnyH_take (i := 7) (oi := _) (v := ?_) rfl (by kernel_rfl) (by kernel_rfl) (by kernel_rfl) (fun _ _ _ h => h) (Or.inl ⟨by rfl, ?_⟩) (by assumption) ?_
              rotate_left
              · intro w hSw
                (try dsimp only at hSw)
                go_simp
                (try with_reducible rfl)
              (try simp only [List.getElem_toArray, List.getElem_cons_succ, List.getElem_cons_zero, Act.put, List.setIfInBounds_toArray, List.set_cons_zero, List.set_cons_succ])
              refine wpAnyH_take (i := 8) (oi := _) (v := ?_) rfl (by kernel_rfl) (by kernel_rfl) (by kernel_rfl) (fun _ _ _ h => h) (Or.inl ⟨by rfl, ?_⟩) (by assumption) ?_
              rotate_left
              · intro w hSw
                (try dsimp only at hSw)
                go_simp
                (try with_reducible rfl)
              (try simp only [List.getElem_toArray, List.getElem_cons_succ, List.getElem_cons_zero, Act.put, List.setIfInBounds_toArray, List.set_cons_zero, List.set_cons_succ])
              refine wpAnyH_take (i := 9) (oi := _) (v := .agg (idC z).toArray) rfl (by kernel_rfl) (by kernel_rfl) (by kernel_rfl) (fun _ _ _ h => h) (yieldsIf_load_mid (by rfl) 25 _ rfl wr.heap.size 0 rfl (idC z) _ (fun w h => h.2.1) Ybaf.underlying25 rfl HI25z.out) (by assumption) ?_
              (try simp only [List.getElem_toArray, List.getElem_cons_succ, List.getElem_cons_zero, Act.put, List.setIfInBounds_toArray, List.set_cons_zero, List.set_cons_succ])
              refine wpAnyH_take (i := 10) (oi := _) (v := ?_) rfl (by kernel_rfl) (by kernel_rfl) (by kernel_rfl) (fun _ _ _ h => h) (Or.inl ⟨by rfl, ?_⟩) (by assumption) ?_
              rotate_left
              · intro w hSw
                (try dsimp only at hSw)
                go_simp
                (try with_reducible rfl)
              (try simp only [List.getElem_toArray, List.getElem_cons_succ, List.getElem_cons_zero, Act.put, List.setIfInBounds_toArray, List.set_cons_zero, List.set_cons_succ])
              refine wpAnyH_take (i := 11) (oi := _) (v := ?_) rfl (by kernel_rfl) (by kernel_rfl) (by kernel_rfl) (fun _ _ _ h => h) (Or.inl ⟨by rfl, ?_⟩) (by assumption) ?_
              rotate_left
              · intro w hSw
                (try dsimp only at hSw)
                go_simp
                (try with_reducible rfl)
              (try simp only [List.getElem_toArray, List.getElem_cons_succ, List.getElem_cons_zero, Act.put, List.setIfInBounds_toArray, List.set_cons_zero, List.set_cons_succ])
              refine wpAnyH_take (i := 12) (oi := _) (v := ?_) rfl (by kernel_rfl) (by kernel_rfl) (by kernel_rfl) (fun _ _ _ h => h) (Or.inl ⟨by rfl, ?_⟩) (by assumption) ?_
              rotate_left
              · intro w hSw
                (try dsimp only at hSw)
                go_simp
                (try with_reducible rfl)
              (try simp only [List.getElem_toArray, List.getElem_cons_succ, List.getElem_cons_zero, Act.put, List.setIfInBounds_toArray, List.set_cons_zero, List.set_cons_succ])
              refine wpAnyH_take (i := 13) (oi := _) (v := ?_) rfl (by kernel_rfl) (by kernel_rfl) (by kernel_rfl) (fun _ _ _ h => h) (Or.inl ⟨by rfl, ?_⟩) (by assumption) ?_
              rotate_left
              · intro w hSw
                (try dsimp only at hSw)
                go_simp
                (try with_reducible rfl)
              (try simp only [List.getElem_toArray, List.getElem_cons_succ, List.getElem_cons_zero, Act.put, List.setIfInBounds_toArray, List.set_cons_zero, List.set_cons_succ])
              refine wpAnyH_take (i := 14) (oi := _) (v := .agg (idC x).toArray) rfl (by kernel_rfl) (by kernel_rfl) (by kernel_rfl) (fun _ _ _ h => h) (yieldsIf_load_mid (by rfl) 25 _ rfl nb 0 rfl (idC x) _ (fun w h => h.2.2) Ybaf.underlying25 rfl HI25x.out) (by assumption) ?_
              (try simp only [List.getElem_toArray, List.getElem_cons_succ, List.getElem_cons_zero, Act.put, List.setIfInBounds_toArray, List.set_cons_zero, List.set_cons_succ])
              refine wpAnyH_take (i := 15) (oi := _) (v := .bool true) rfl (by kernel_rfl) (by kernel_rfl) (by kernel_rfl) (fun _ _ _ h => h) (yieldsIf_eql z x true HZX.out (by rfl) (.tmp 30) (.tmp 35) rfl rfl rfl) (by assumption) ?_
              (try simp only [List.getElem_toArray, List.getElem_cons_succ, List.getElem_cons_zero, Act.put, List.setIfInBounds_toArray, List.set_cons_zero, List.set_cons_succ])
              refine wpAnyH_take (i := 16) (oi := _) (v := ?_) rfl (by kernel_rfl) (by kernel_rfl) (by kernel_rfl) (fun _ _ _ h => h) (Or.inl ⟨by rfl, ?_⟩) (by assumption) ?_
              rotate_left
              · intro w hSw
                (try dsimp only at hSw)
                go_simp
                (try with_reducible rfl)
              (try simp only [List.getElem_toArray, List.getElem_cons_succ, List.getElem_cons_zero, Act.put, List.setIfInBounds_toArray, List.set_cons_zero, List.set_cons_succ])
              refine wpAnyH_take (i := 17) (oi := _) (v := ?_) rfl (by kernel_rfl) (by kernel_rfl) (by kernel_rfl) (fun _ _ _ h => h) (Or.inl ⟨by rfl, ?_⟩) (by assumption) ?_
              rotate_left
              · intro w hSw
                (try dsimp only at hSw)
                go_simp
                (try with_reducible rfl)
              (try simp only [List.getElem_toArray, List.getElem_cons_succ, List.getElem_cons_zero, Act.put, List.setIfInBounds_toArray, List.set_cons_zero, List.set_cons_succ])
              refine wpAnyH_take (i := 18) (oi := _) (v := undef) rfl (by kernel_rfl) (by kernel_rfl) (by kernel_rfl) (fun _ _ _ h => h) (Or.inr ⟨by rfl, rfl⟩) (by assumption) ?_
              (try simp only [List.getElem_toArray, List.getElem_cons_succ, List.getElem_cons_zero, Act.put, List.setIfInBounds_toArray, List.set_cons_zero, List.set_cons_succ])
              refine wpAnyH_take (i := 19) (oi := _) (v := ?_) rfl (by kernel_rfl) (by kernel_rfl) (by kernel_rfl) (fun _ _ _ h => h) (Or.inl ⟨by rfl, ?_⟩) (by assumption) ?_
              rotate_left
              · intro w hSw
                (try dsimp only at hSw)
                go_simp
                (try with_reducible rfl)
              (try simp only [List.getElem_toArray, List.getElem_cons_succ, List.getElem_cons_zero, Act.put, List.setIfInBounds_toArray, List.set_cons_zero, List.set_cons_succ])
              refine wpAnyH_done (by kernel_rfl) ?_ _
              go_wp2_with fail
              go_meet
              exact ⟨⟨_, rfl⟩, rfl⟩
            | false =>
              have HZX := hide hzx
              clear hzx
              refine wp_region_held_drew (S := fun wx => wx.cell? ⟨nb, 22, none⟩ = some (.int .i64 r) ∧ wx.rangeAt wr.heap.size 0 (idC z) ∧ wx.rangeAt nb 0 (idC x)) (by kernel_rfl) HS6.out (fun hHeld => ?_)
              refine wpAnyH_take (i := 0) (oi := _) (v := ?_) rfl (by kernel_rfl) (by kernel_rfl) (by kernel_rfl) (fun _ _ _ h => h) (Or.inl ⟨by rfl, ?_⟩) (by assumption) ?_
              rotate_left
              · intro w hSw
                (try dsimp only at hSw)
                go_simp
                (try with_reducible rfl)
              (try simp only [List.getElem_toArray, List.getElem_cons_succ, List.getElem_cons_zero, Act.put, List.setIfInBounds_toArray, List.set_cons_zero, List.set_cons_succ])
              refine wpAnyH_take (i := 1) (oi := _) (v := ?_) rfl (by kernel_rfl) (by kernel_rfl) (by kernel_rfl) (fun _ _ _ h => h) (Or.inl ⟨by rfl, ?_⟩) (by assumption) ?_
              rotate_left
              · intro w hSw
                (try dsimp only at hSw)
                go_simp
                (try with_reducible rfl)
              (try simp only [List.getElem_toArray, List.getElem_cons_succ, List.getElem_cons_zero, Act.put, List.setIfInBounds_toArray, List.set_cons_zero, List.set_cons_succ])
              refine wpAnyH_take (i := 2) (oi := _) (v := ?_) rfl (by kernel_rfl) (by kernel_rfl) (by kernel_rfl) (fun _ _ _ h => h) (Or.inl ⟨by rfl, ?_⟩) (by assumption) ?_
              rotate_left
              · intro w hSw
                (try dsimp only at hSw)
                go_simp
                (try with_reducible rfl)
              (try simp only [List.getElem_toArray, List.getElem_cons_succ, List.getElem_cons_zero, Act.put, List.setIfInBounds_toArray, List.set_cons_zero, List.set_cons_succ])
              refine wpAnyH_take (i := 3) (oi := _) (v := ?_) rfl (by kernel_rfl) (by kernel_rfl) (by kernel_rfl) (fun _ _ _ h => h) (Or.inl ⟨by rfl, ?_⟩) (by assumption) ?_
              rotate_left
              · intro w hSw
                (try dsimp only at hSw)
                go_simp
                (try with_reducible rfl)
              (try simp only [List.getElem_toArray, List.getElem_cons_succ, List.getElem_cons_zero, Act.put, List.setIfInBounds_toArray, List.set_cons_zero, List.set_cons_succ])
              refine wpAnyH_take (i := 4) (oi := _) (v := ?_) rfl (by kernel_rfl) (by kernel_rfl) (by kernel_rfl) (fun _ _ _ h => h) (Or.inl ⟨by rfl, ?_⟩) (by assumption) ?_
              rotate_left
              · intro w hSw
                (try dsimp only at hSw)
                go_simp
                (try with_reducible rfl)
              (try simp only [List.getElem_toArray, List.getElem_cons_succ, List.getElem_cons_zero, Act.put, List.setIfInBounds_toArray, List.set_cons_zero, List.set_cons_succ])
              refine wpAnyH_take (i := 5) (oi := _) (v := ?_) rfl (by kernel_rfl) (by kernel_rfl) (by kernel_rfl) (fun _ _ _ h => h) (Or.inl ⟨by rfl, ?_⟩) (by assumption) ?_
              rotate_left
              · intro w hSw
                obtain ⟨hS1, _, _⟩ := hSw
                go_simp
                (try with_reducible rfl)
              (try simp only [List.getElem_toArray, List.getElem_cons_succ, List.getElem_cons_zero, Act.put, List.setIfInBounds_toArray, List.set_cons_zero, List.set_cons_succ])
              refine wpAnyH_take (i := 6) (oi := _) (v := ?_) rfl (by kernel_rfl) (by kernel_rfl) (by kernel_rfl) (fun _ _ _ h => h) (Or.inl ⟨by rfl, ?_⟩) (by assumption) ?_
              rotate_left
              · intro w hSw
                (try dsimp only at hSw)
                go_simp
                (try with_reducible rfl)
              (try simp only [List.getElem_toArray, List.getElem_cons_succ, List.getElem_cons_zero, Act.put, List.setIfInBounds_toArray, List.set_cons_zero, List.set_cons_succ])
              refine wpAnyH_take (i := 7) (oi := _) (v := ?_) rfl (by kernel_rfl) (by kernel_rfl) (by kernel_rfl) (fun _ _ _ h => h) (Or.inl ⟨by rfl, ?_⟩) (by assumption) ?_
              rotate_left
              · intro w hSw
                (try dsimp only at hSw)
                go_simp
                (try with_reducible rfl)
              (try simp only [List.getElem_toArray, List.getElem_cons_succ, List.getElem_cons_zero, Act.put, List.setIfInBounds_toArray, List.set_cons_zero, List.set_cons_succ])
              refine wpAnyH_take (i := 8) (oi := _) (v := ?_) rfl (by kernel_rfl) (by kernel_rfl) (by kernel_rfl) (fun _ _ _ h => h) (Or.inl ⟨by rfl, ?_⟩) (by assumption) ?_
              rotate_left
              · intro w hSw
                (try dsimp only at hSw)
                go_simp
                (try with_reducible rfl)
              (try simp only [List.getElem_toArray, List.getElem_cons_succ, List.getElem_cons_zero, Act.put, List.setIfInBounds_toArray, List.set_cons_zero, List.set_cons_succ])
              refine wpAnyH_take (i := 9) (oi := _) (v := .agg (idC z).toArray) rfl (by kernel_rfl) (by kernel_rfl) (by kernel_rfl) (fun _ _ _ h => h) (yieldsIf_load_mid (by rfl) 25 _ rfl wr.heap.size 0 rfl (idC z) _ (fun w h => h.2.1) Ybaf.underlying25 rfl HI25z.out) (by assumption) ?_
              (try simp only [List.getElem_toArray, List.getElem_cons_succ, List.getElem_cons_zero, Act.put, List.setIfInBounds_toArray, List.set_cons_zero, List.set_cons_succ])
              refine wpAnyH_take (i := 10) (oi := _) (v := ?_) rfl (by kernel_rfl) (by kernel_rfl) (by kernel_rfl) (fun _ _ _ h => h) (Or.inl ⟨by rfl, ?_⟩) (by assumption) ?_
              rotate_left
              · intro w hSw
                (try dsimp only at hSw)
                go_simp
                (try with_reducible rfl)
              (try simp only [List.getElem_toArray, List.getElem_cons_succ, List.getElem_cons_zero, Act.put, List.setIfInBounds_toArray, List.set_cons_zero, List.set_cons_succ])
              refine wpAnyH_take (i := 11) (oi := _) (v := ?_) rfl (by kernel_rfl) (by kernel_rfl) (by kernel_rfl) (fun _ _ _ h => h) (Or.inl ⟨by rfl, ?_⟩) (by assumption) ?_
              rotate_left
              · intro w hSw
                (try dsimp only at hSw)
                go_simp
                (try with_reducible rfl)
              (try simp only [List.getElem_toArray, List.getElem_cons_succ, List.getElem_cons_zero, Act.put, List.setIfInBounds_toArray, List.set_cons_zero, List.set_cons_succ])
              refine wpAnyH_take (i := 12) (oi := _) (v := ?_) rfl (by kernel_rfl) (by kernel_rfl) (by kernel_rfl) (fun _ _ _ h => h) (Or.inl ⟨by rfl, ?_⟩) (by assumption) ?_
              rotate_left
              · intro w hSw
                (try dsimp only at hSw)
                go_simp
                (try with_reducible rfl)
              (try simp only [List.getElem_toArray, List.getElem_cons_succ, List.getElem_cons_zero, Act.put, List.setIfInBounds_toArray, List.set_cons_zero, List.set_cons_succ])
              refine wpAnyH_take (i := 13) (oi := _) (v := ?_) rfl (by kernel_rfl) (by kernel_rfl) (by kernel_rfl) (fun _ _ _ h => h) (Or.inl ⟨by rfl, ?_⟩) (by assumption) ?_
              rotate_left
              · intro w hSw
                (try dsimp only at hSw)
                go_simp
                (try with_reducible rfl)
              (try simp only [List.getElem_toArray, List.getElem_cons_succ, List.getElem_cons_zero, Act.put, List.setIfInBounds_toArray, List.set_cons_zero, List.set_cons_succ])
              refine wpAnyH_take (i := 14) (oi := _) (v := .agg (idC x).toArray) rfl (by kernel_rfl) (by kernel_rfl) (by kernel_rfl) (fun _ _ _ h => h) (yieldsIf_load_mid (by rfl) 25 _ rfl nb 0 rfl (idC x) _ (fun w h => h.2.2) Ybaf.underlying25 rfl HI25x.out) (by assumption) ?_
              (try simp only [List.getElem_toArray, List.getElem_cons_succ, List.getElem_cons_zero, Act.put, List.setIfInBounds_toArray, List.set_cons_zero, List.set_cons_succ])
              refine wpAnyH_take (i := 15) (oi := _) (v := .bool false) rfl (by kernel_rfl) (by kernel_rfl) (by kernel_rfl) (fun _ _ _ h => h) (yieldsIf_eql z x false HZX.out (by rfl) (.tmp 30) (.tmp 35) rfl rfl rfl) (by assumption) ?_
              (try simp only [List.getElem_toArray, List.getElem_cons_succ, List.getElem_cons_zero, Act.put, List.setIfInBounds_toArray, List.set_cons_zero, List.set_cons_succ])
              refine wpAnyH_take (i := 16) (oi := _) (v := ?_) rfl (by kernel_rfl) (by kernel_rfl) (by kernel_rfl) (fun _ _ _ h => h) (Or.inl ⟨by rfl, ?_⟩) (by assumption) ?_
              rotate_left
              · intro w hSw
                (try dsimp only at hSw)
                go_simp
                (try with_reducible rfl)
              (try simp only [List.getElem_toArray, List.getElem_cons_succ, List.getElem_cons_zero, Act.put, List.setIfInBounds_toArray, List.set_cons_zero, List.set_cons_succ])
              refine wpAnyH_take (i := 17) (oi := _) (v := ?_) rfl (by kernel_rfl) (by kernel_rfl) (by kernel_rfl) (fun _ _ _ h => h) (Or.inl ⟨by rfl, ?_⟩) (by assumption) ?_
              rotate_left
              · intro w hSw
                (try dsimp only at hSw)
                go_simp
                (try with_reducible rfl)
              (try simp only [List.getElem_toArray, List.getElem_cons_succ, List.getElem_cons_zero, Act.put, List.setIfInBounds_toArray, List.set_cons_zero, List.set_cons_succ])
              refine wpAnyH_take (i := 18) (oi := _) (v := ?_) rfl (by kernel_rfl) (by kernel_rfl) (by kernel_rfl) (fun _ _ _ h => h) (Or.inl ⟨by rfl, ?_⟩) (by assumption) ?_
              rotate_left
              · intro w hSw
                (try dsimp only at hSw)
                go_simp
                (try with_reducible rfl)
              (try simp only [List.getElem_toArray, List.getElem_cons_succ, List.getElem_cons_zero, Act.put, List.setIfInBounds_toArray, List.set_cons_zero, List.set_cons_succ])
              refine wpAnyH_take (i := 19) (oi := _) (v := ?_) rfl (by kernel_rfl) (by kernel_rfl) (by kernel_rfl) (fun _ _ _ h => h) (Or.inl ⟨by rfl, ?_⟩) (by assumption) ?_
              rotate_left
              · intro w hSw
                (try dsimp only at hSw)
                go_simp
                (try with_reducible rfl)
              (try simp only [List.getElem_toArray, List.getElem_cons_succ, List.getElem_cons_zero, Act.put, List.setIfInBounds_toArray, List.set_cons_zero, List.set_cons_succ])
              refine wpAnyH_done (by kernel_rfl) ?_ _
              go_wp2_with fail
              go_meet
              exact ⟨⟨_, rfl⟩, rfl⟩
        case rest =>
          obtain ⟨⟨b, rfl⟩, ewc⟩ := hcut
          subst ewc
          cases b with
          | true =>
            go_wp2_with fail
            go_meet
            exact ⟨g, cap, zs, rfl, by omega, HCE5.out, by omega, HB5.out.drew⟩
          | false =>
            obtain ⟨i4, z4, hi4, hz40, hz41, hz42, hz4c⟩ := parts54
            go_wp2_with (first
              | (refine wpList_load_mid rfl 54 _ rfl wr.heap.size 0 rfl (peerC z) _ HNEW5.out Ybaf.underlying54 rfl (HI54.out z) ?_)
              | (refine wpList_bslice1 rfl 58 1 0 _ rfl (.agg (peerC z).toArray) rfl _ (bslice58 z _) ?_)
              | (at_builtin; refine wpList_append_lies _ rfl _ _ 58 rfl (w.heap.size + 1) 54 i4 z4 22 40 Ybaf.underlying58 hi4 hz40 hz41 hz42 hz4c (by decide) (.slice (some ⟨g, 0, none⟩) (zs.length + 1) cap) (zs.length + 1) _ rfl (HOW5.out.alloc _) ⟨w5.heap.size, 0, none⟩ 1 1 (peerC z) rfl (by rw [peerC_len]) (cells_new w5.drew _ rfl (peerC z) 54) (peerC_one z) (by decide) (by unfold maxLen; omega) (by omega) (by show _ ≤ (World.alloc _ _).heap.size; rw [World.size_alloc]; show _ ≤ w5.heap.size + 1; omega) _ rfl ?_; intro g6 cp6 w6 hown6 hgrow6 _ hg6))
            have hb6 : Below w.heap.size w w6 := ((HB5.out.drew).alloc (by show _ ≤ w5.heap.size; omega) _).grown hgrow6 (by rw [World.size_alloc]; show _ ≤ w5.heap.size + 1; omega) (fun k hk => by
              have hkk : g = k := by simpa [Value.ownBlock] using hk
              omega)
            have hz6 : w.heap.size + 1 ≤ w6.heap.size := by have := hgrow6.size; rw [World.size_alloc] at this; have e : w5.drew.heap.size = w5.heap.size := rfl; omega
            have HOW6 : Hid (w6.ownsRow (w.heap.size + 1) 54 22 (.slice (some ⟨g6, 0, none⟩) (zs.length + 1 + 1) cp6) (y :: (zs ++ [z])).length (rowP (y :: (zs ++ [z])))) := by
              have e : (y :: (zs ++ [z])).length = zs.length + 1 + 1 := by simp
              have e2 : rowP (y :: (zs ++ [z])) = rowP (y :: zs) ++ peerC z := rowP_snoc (y :: zs) z
              rw [e, e2]
              exact hown6
            have HB6 := hide hb6
            clear hown6 hgrow6 hb6
            go_wp2
            go_roundw
            case rel => exact ⟨j + 1, zs ++ [z], by omega, by go_num, by simp; omega, HOW6.out, HB6.out, hz6⟩
            case measure => simp [intOf]; omega
      · have t1 : ¬ (j : Int) < (m : Int) := by omega
        go_wp2_with fail
        go_meet
        exact ⟨g, cap, zs, rfl, by omega, HCE.out, by omega, HBEL.out⟩
  case rest =>
    obtain ⟨g, cap, zs, rfl, hzl, hcells, hgn, hbc⟩ := hcut
    have hNc : wc.heap[nb]? = some (.cells (nodeF x r hb st (.int .i32 0) (.slice (some ⟨gs, 0, none⟩) 1 1) fi ru 0).toArray 60 (0, 0)) := (hbc.block nb hnb).trans HN.out
    have hsn : gs ≠ nb := fun e => by
      have h1 := HN.out
      have h2 := HG.out
      rw [e, h1] at h2
      simp at h2
    have HLOCK := hide (lock_free Ybaf.muLib ⟨nb, 27, none⟩ wc (node_at hNc 27 _ rfl) (node_free hNc 27))
    obtain ⟨wl, hwl⟩ : ∃ wl, wl = wc.setCell ⟨nb, 27, none⟩ (.int .i32 1) := ⟨_, rfl⟩
    have hNl : wl.heap[nb]? = some (.cells (nodeF x r hb st (.int .i32 1) (.slice (some ⟨gs, 0, none⟩) 1 1) fi ru 0).toArray 60 (0, 0)) := by
      rw [hwl, setCell_row _ _ _ _ _ _ _ hNc]
      rfl
    have hgl : w.grownBy wl (some nb) := by
      rw [hwl]
      exact ⟨hbc.os, hbc.tape, hbc.output, by simp [World.setCell]; exact hbc.size, fun k hk hne => (setCell_other_block _ _ _ _ (fun e => hne (by rw [e]))).trans (hbc.block k hk)⟩
    have HEQ := hide (equal26 zs y x HYX.out g cap gs wl (fun p u hu => by
        rw [hwl, World.cell?_setCell_far _ _ _ _ (by simp only; exact fun e => hgn e.symm)]
        exact hcells p u hu) (by
        rw [hwl]
        refine row_range (t := 54) (fr := (0, 0)) ?_
        rw [setCell_other_block _ _ _ _ hsn]
        exact (hbc.block gs hgs).trans HG.out) (by omega))
    have hc51 : wl.cell? ⟨nb, 51, none⟩ = some (.slice (some ⟨gs, 0, none⟩) 1 1) := node_at hNl 51 _ rfl
    have hc54 : wl.cell? ⟨nb, 54, none⟩ = some (.int .u64 0) := node_at hNl 54 _ rfl
    have hfr : ∀ p, wl.frozen? ⟨nb, p, none⟩ = false := node_free hNl
    have hfr51 := hfr 51
    have hfr54 := hfr 54
    rw [← hwl] at HLOCK
    have HNL := hide hNl
    have HGL := hide hgl
    clear hNl hgl hNc hcells hbc hwl hfr
    simp only [List.length_cons] at HEQ
    (try simp only [List.length_cons])
    go_upto_region 13 with (first
      | (go_at_call 19; refine HLOCK.out.mono ?_; rintro e w' ⟨rfl, rfl⟩)
      | (go_at_call 26; refine HEQ.out.mono ?_; rintro e w' ⟨rfl, q, rfl⟩))
    obtain ⟨we, hwe⟩ : ∃ we, we = (((w'.drewN q).setCell ⟨nb, 51, none⟩ (.slice (some ⟨g, 0, none⟩) (zs.length + 1) cap)).setCell ⟨nb, 54, none⟩ (.int .u64 1)) := ⟨_, rfl⟩
    rw [← hwe]
    have hNe : we.heap[nb]? = some (.cells (nodeF x r hb st (.int .i32 1) (.slice (some ⟨g, 0, none⟩) (zs.length + 1) cap) fi ru 1).toArray 60 (0, 0)) := by
      have h0 : (w'.drewN q).heap[nb]? = _ := HNL.out
      rw [hwe, setCell_row _ _ _ _ _ _ _ (setCell_row _ _ _ _ _ _ _ h0)]
      rfl
    have hge : w.grownBy we (some nb) := by
      have h0 := HGL.out
      rw [hwe]
      exact ⟨h0.os, h0.tape, h0.output, by simp [World.setCell]; exact h0.size, fun k hk hne => (setCell_other_block _ _ _ _ (fun e => hne (by rw [e]))).trans ((setCell_other_block _ _ _ _ (fun e => hne (by rw [e]))).trans (h0.block k hk hne))⟩
    have HUN := hide (unlock_held Ybaf.muLib ⟨nb, 27, none⟩ we (node_at hNe 27 _ rfl) (node_free hNe 27))
    have HNE := hide hNe
    have HGE := hide hge
    clear hNe hge hwe
    go_wp2_with (go_at_call 20; refine HUN.out.mono ?_; rintro e wu ⟨rfl, ewu⟩)
    go_end0
    refine ⟨rfl, ⟨.slice (some ⟨g, 0, none⟩) (zs.length + 1) cap, ?_⟩, ?_⟩
    · rw [setCell_row _ _ _ _ _ _ _ HNE.out]
      rfl
    · have h0 := HGE.out
      exact ⟨h0.os, h0.tape, h0.output, by simp [World.setCell]; exact h0.size, fun k hk hne => (setCell_other_block _ _ _ _ (fun e => hne (by rw [e]))).trans (h0.block k hk hne)⟩
end Go.Proofs.YbulkkiqFmt
