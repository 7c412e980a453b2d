/-
  THE WALK of 'FnEdgeCommutesAcrossRows' (function 5): the ways that return early.
-/
import Derived.Test.Qxb6615984aGrid
namespace Go.Proofs.Qxb6615984a
open Go.RowKit

section
variable {n cap : Nat} {A : Nat → Option Addr} {L C : Nat → Nat} {Z : Nat → Nat → Int} {bb o : Nat} {Ab Ao : Nat → Nat}

set_option maxRecDepth 100000 in
set_option maxHeartbeats 400000 in
theorem comm_big (w : World) (ao : Option Addr) (hg : Grid w ao n A L C Z bb o Ab Ao) (hL : ∀ i, i < n → L i ≤ maxLen) (hn : n ≤ maxLen) (a b c d : Int) (h : 4096 < n) :
    Calls Try.prog 5 #[.slice ao n cap, .int .i64 a, .int .i64 b, .int .i64 c, .int .i64 d] w fun e w' => e = .returned (.bool true) ∧ Below w.heap.size w w' := by
  have g1 : decide (4096 < (n : Int)) = true := by simp; omega
  go_enter Try.func5, Try.ntmps5
  go_wp2_with fail
  refine (bytesC_any (cap := cap) w hg hL hn a b c d).mono ?_
  rintro e w ⟨⟨r, rfl⟩, rfl⟩
  cases r
  all_goals
    go_wp2
    go_ret
    exact ⟨rfl, Below.refl _ _⟩

set_option maxRecDepth 100000 in
set_option maxHeartbeats 1000000 in
theorem comm_out (w : World) (ao : Option Addr) (hg : Grid w ao n A L C Z bb o Ab Ao) (hL : ∀ i, i < n → L i ≤ maxLen) (hn : n ≤ 4096) (a b c d : Int) (h : a < 0 ∨ (n : Int) ≤ a ∨ c < 0 ∨ (n : Int) ≤ c) :
    Calls Try.prog 5 #[.slice ao n cap, .int .i64 a, .int .i64 b, .int .i64 c, .int .i64 d] w fun e w' => e = .returned (.bool true) ∧ Below w.heap.size w w' := by
  have g1 : decide (4096 < (n : Int)) = false := by simp; omega
  go_enter Try.func5, Try.ntmps5
  go_wp2_with fail
  refine (bytesC_any (cap := cap) w hg hL (by unfold maxLen; omega) a b c d).mono ?_
  rintro e w ⟨⟨r, rfl⟩, rfl⟩
  cases r with
  | false =>
    go_wp2
    go_ret
    exact ⟨rfl, Below.refl _ _⟩
  | true =>
    go_wp2_with fail
    refine (rowsBytes_any (cap := cap) w hg hL (by unfold maxLen; omega) 0 (by omega) (by omega)).mono ?_
    rintro e w ⟨r, rfl, rfl, hfit⟩
    by_cases hr : 1048576 < r
    · go_wp2_with fail
      go_ret
      exact ⟨rfl, Below.refl _ _⟩
    · clear hfit
      by_cases h1 : a < 0
      · clear h
        go_wp2_with fail
        go_ret
        exact ⟨rfl, Below.refl _ _⟩
      · have h1' : decide (a < 0) = false := by simpa using h1
        by_cases h2 : (n : Int) ≤ a
        · have h2' : decide ((n : Int) ≤ a) = true := by simpa using h2
          clear h
          go_wp2_with fail
          go_ret
          exact ⟨rfl, Below.refl _ _⟩
        · have h2' : decide ((n : Int) ≤ a) = false := by simpa using h2
          by_cases h3 : c < 0
          · have h3' : decide (c < 0) = true := by simpa using h3
            clear h
            go_wp2_with fail
            go_ret
            exact ⟨rfl, Below.refl _ _⟩
          · have h3' : decide (c < 0) = false := by simpa using h3
            have h4 : (n : Int) ≤ c := by omega
            have h4' : decide ((n : Int) ≤ c) = true := by simpa using h4
            clear h
            go_wp2_with fail
            go_ret
            exact ⟨rfl, Below.refl _ _⟩

end
end Go.Proofs.Qxb6615984a
