/-
  THE WALK of 'FnViolationStringDecodes' (function 4).
-/
import Derived.Test.Qxb6615984aFmtLies
import Derived.Deep.RegionWith
namespace Go.Proofs.Qxb6615984aFmt
open Go.RowKit Go.Extern.Stop Go.Stop Go.Extern

set_option maxHeartbeats 400000 in
theorem dec_big (l1 l2 : Int) (r1 m1 r2 m2 : ByteArray) (w : World) (h : 1048576 < r1.size + m1.size + r2.size + m2.size) :
    Calls Tryf.prog 4 #[.int .i64 l1, .string r1, .string m1, .int .i64 l2, .string r2, .string m2] w fun e w' => e = .returned (.bool true) ∧ Below w.heap.size w w' := by
  go_enter Tryf.func4, Tryf.ntmps4
  go_wp2_with (go_at_call 8; refine (bytesDec_no _ _ _ _ _ _ _ h).mono ?_; rintro e w ⟨rfl, rfl⟩)
  go_ret
  exact ⟨rfl, Below.refl _ _⟩

set_option maxHeartbeats 400000 in
theorem dec_space1 (l1 l2 : Int) (r1 m1 r2 m2 : ByteArray) (w : World) (h : r1.size + m1.size + r2.size + m2.size ≤ 1048576) (hs : (32 : UInt8) ∈ r1.data.toList) :
    Calls Tryf.prog 4 #[.int .i64 l1, .string r1, .string m1, .int .i64 l2, .string r2, .string m2] w fun e w' => e = .returned (.bool true) ∧ Below w.heap.size w w' := by
  go_enter Tryf.func4, Tryf.ntmps4
  go_wp2_with (first | (go_at_call 8; refine (bytesDec_yes _ _ _ _ _ _ _ h).mono ?_; rintro e w ⟨rfl, rfl⟩) | (go_at_call 9; refine (add_small _ _ _ (by omega) (by omega) (by omega)).mono ?_; rintro e w ⟨rfl, rfl⟩) | (go_at_call 10; refine (space_yes r1 _ (by omega) hs).mono ?_; rintro e w ⟨rfl, rfl⟩))
  go_ret
  exact ⟨rfl, Below.refl _ _⟩

set_option maxHeartbeats 400000 in
theorem dec_space2 (l1 l2 : Int) (r1 m1 r2 m2 : ByteArray) (w : World) (h : r1.size + m1.size + r2.size + m2.size ≤ 1048576) (hn : (32 : UInt8) ∉ r1.data.toList) (hs : (32 : UInt8) ∈ r2.data.toList) :
    Calls Tryf.prog 4 #[.int .i64 l1, .string r1, .string m1, .int .i64 l2, .string r2, .string m2] w fun e w' => e = .returned (.bool true) ∧ Below w.heap.size w w' := by
  have hne : r1 ≠ r2 := fun e => hn (by rw [e]; exact hs)
  go_enter Tryf.func4, Tryf.ntmps4
  go_wp2_with (first | (go_at_call 8; refine (bytesDec_yes _ _ _ _ _ _ _ h).mono ?_; rintro e w ⟨rfl, rfl⟩) | (go_at_call 9; refine (add_small _ _ _ (by omega) (by omega) (by omega)).mono ?_; rintro e w ⟨rfl, rfl⟩) | (go_at_call_of 10 r1; refine (space_no r1 _ (by omega) hn).mono ?_; rintro e w ⟨rfl, rfl⟩) | (go_at_call_of 10 r2; refine (space_yes r2 _ (by omega) hs).mono ?_; rintro e w ⟨rfl, rfl⟩))
  go_ret
  exact ⟨rfl, Below.refl _ _⟩

end Go.Proofs.Qxb6615984aFmt
