/- The walk of FnModulePathMatchesScanner (function 3). -/
import Derived.Test.Qxb6605297aScan
namespace Go.Proofs.Qxb6605297a
open Go.RowKit

theorem ret_bool {b : Bool} (h : b = true) : Ending.returned (.bool b) = .returned (.bool true) := by rw [h]

set_option maxHeartbeats 1000000 in
set_option maxRecDepth 100000 in
theorem law_any (s : ByteArray) (w : World) (hs : s.size ≤ maxLen) :
    Calls Try.prog 3 #[.string s] w fun e w' => e = .returned (.bool true) ∧ Below w.heap.size w w' := by
  by_cases hb : s.size ≤ 1048576
  · clear hs
    go_enter Try.func3, Try.ntmps3
    go_wp2_with (first | (go_at_call 5; go_in) | fail)
    refine (path_out _ _ hb).mono ?_
    rintro e w1 ⟨rfl, hb1⟩
    go_wp2_with fail
    refine (scan_any _ _ hb).mono ?_
    rintro e w2 ⟨rfl, hb2⟩
    go_wp2
    go_ret
    exact ⟨ret_bool (by simp), hb1.trans (hb2.mono hb1.size)⟩
  · unfold maxLen at hs
    have hb' : 1048576 < s.size := by omega
    go_enter Try.func3, Try.ntmps3
    go_wp2
    go_ret
    exact ⟨rfl, Below.refl _ _⟩

end Go.Proofs.Qxb6605297a
