/-
  THE SMALL WALKS of seat b6615984aF: the bounds on the arguments' bytes.
-/
import Derived.Test.Qxb6615984aFmtRows
import Derived.WalkKit
import Derived.WalkSpells
import Derived.WalkLawsBesides
namespace Go.Proofs.Qxb6615984aFmt
open Go.RowKit

set_option maxHeartbeats 400000 in
/-- 'zzBytes_FnViolationStringMessageCut', where the bytes are within the bound. -/
theorem bytesCut_yes (line k : Int) (rule message : ByteArray) (w : World) (h : rule.size + message.size ≤ 1048576) :
    Calls Tryf.prog 5 #[.int .i64 line, .string rule, .string message, .int .i64 k] w fun e w' => e = .returned (.bool true) ∧ w' = w := by
  go_enter Tryf.func5, Tryf.ntmps5
  go_wp2
  go_ret
  exact ⟨rfl, rfl⟩

set_option maxHeartbeats 400000 in
/-- .. and where they are not. -/
theorem bytesCut_no (line k : Int) (rule message : ByteArray) (w : World) (h : 1048576 < rule.size + message.size) :
    Calls Tryf.prog 5 #[.int .i64 line, .string rule, .string message, .int .i64 k] w fun e w' => e = .returned (.bool false) ∧ w' = w := by
  by_cases h1 : rule.size ≤ 1048576
  · by_cases h2 : message.size ≤ 1048576
    · go_enter Tryf.func5, Tryf.ntmps5
      go_wp2
      go_ret
      exact ⟨rfl, rfl⟩
    · go_enter Tryf.func5, Tryf.ntmps5
      go_wp2
      go_ret
      exact ⟨rfl, rfl⟩
  · go_enter Tryf.func5, Tryf.ntmps5
    go_wp2
    go_ret
    exact ⟨rfl, rfl⟩

end Go.Proofs.Qxb6615984aFmt
