-- MINE
import Derived.Test.YbulkkiqFmtCmp
import Derived.Deep.QuietTactic
namespace Go.Proofs.YbulkkiqFmt
open Go.RowKit Go.Shelf
open Go.Extern.Stop (cell)

set_option maxRecDepth 100000 in
set_option maxHeartbeats 1600000 in
theorem closure16 (b c : Nat) (x y : UInt8) (w : World) (hb : w.rangeAt b 0 ((bytesL x).map cell)) (hc : w.rangeAt c 0 ((bytesL y).map cell)) :
    Calls Ybaf.prog 16 #[.pointer (some ⟨b, 0, none⟩), .pointer (some ⟨c, 0, none⟩)] w fun e w' => e = .returned (.int .i64 (cmpB x y)) ∧ ∃ q, w' = w.drewN q := by
  have H := hide (fun (q : Nat) => compare17 b c x y (w.drewN q) (fun j v hv => hb j v hv) (fun j v hv => hc j v hv) 20 20)
  clear hb hc
  go_enter Ybaf.func16, Ybaf.ntmps16
  go_wp2
  go_quiet (first | (go_at_call 17; refine Calls.quiet_of_same (H.out _)))
  go_wp2
  go_ret
  exact ⟨rfl, _, rfl⟩
end Go.Proofs.YbulkkiqFmt
