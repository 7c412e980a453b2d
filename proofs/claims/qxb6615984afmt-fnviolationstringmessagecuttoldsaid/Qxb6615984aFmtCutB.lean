/-
  THE WALK of 'FnViolationStringMessageCut' (function 3): the ways that return early.
-/
import Derived.Test.Qxb6615984aFmtWalkA
namespace Go.Proofs.Qxb6615984aFmt
open Go.RowKit

set_option maxHeartbeats 400000 in
theorem cut_big (line k : Int) (rule message : ByteArray) (w : World) (h : 1048576 < rule.size + message.size) :
    Calls Tryf.prog 3 #[.int .i64 line, .string rule, .string message, .int .i64 k] w fun e w' => e = .returned (.bool true) ∧ Below w.heap.size w w' := by
  go_enter Tryf.func3, Tryf.ntmps3
  go_wp2_with (go_at_call 5; refine (bytesCut_no line k rule message _ h).mono ?_; rintro e w' ⟨rfl, rfl⟩)
  go_ret
  exact ⟨rfl, Below.refl _ _⟩

set_option maxHeartbeats 400000 in
theorem cut_out (line k : Int) (rule message : ByteArray) (w : World) (h : rule.size + message.size ≤ 1048576) (hk : k < 0 ∨ (message.size : Int) < k) :
    Calls Tryf.prog 3 #[.int .i64 line, .string rule, .string message, .int .i64 k] w fun e w' => e = .returned (.bool true) ∧ Below w.heap.size w w' := by
  rcases hk with hk | hk
  · go_enter Tryf.func3, Tryf.ntmps3
    go_wp2_with (go_at_call 5; refine (bytesCut_yes line k rule message _ h).mono ?_; rintro e w' ⟨rfl, rfl⟩)
    go_ret
    exact ⟨rfl, Below.refl _ _⟩
  · have hk' : ¬ k < 0 := by omega
    go_enter Tryf.func3, Tryf.ntmps3
    go_wp2_with (go_at_call 5; refine (bytesCut_yes line k rule message _ h).mono ?_; rintro e w' ⟨rfl, rfl⟩)
    go_ret
    exact ⟨rfl, Below.refl _ _⟩

end Go.Proofs.Qxb6615984aFmt
