/-
  THE WALK of 'FnEdgeScriptAppendsInOrder' (function 6): the ways that return early; no rows at all.
-/
import Derived.Test.Qxb6615984aScript
namespace Go.Proofs.Qxb6615984a
open Go.RowKit Go.Deep

section
variable {n cap : Nat} {A : Nat → Option Addr} {L C : Nat → Nat} {Z : Nat → Nat → Int} {b o : Nat} {Ab Ao : Nat → Nat} {eo : Option Addr} {m ecap eb ex : Nat} {S D : Nat → Int}

set_option maxHeartbeats 400000 in
/-- Too many rows, or too many edges. -/
theorem script_big (w : World) (ao : Option Addr) (hg : Grid w ao n A L C Z b o Ab Ao) (hL : ∀ i, i < n → L i ≤ maxLen) (hn : n ≤ maxLen) (hm : m ≤ maxLen) (h : 4096 < n ∨ 4096 < m) :
    Calls Try.prog 6 #[.slice ao n cap, .slice eo m ecap] w fun e w' => e = .returned (.bool true) ∧ Below w.heap.size w w' := by
  by_cases h1 : 4096 < n
  · have g1 : decide (4096 < (n : Int)) = true := by simp; omega
    go_enter Try.func6, Try.ntmps6
    go_wp2_with fail
    refine (bytesS_any (cap := cap) w hg hL hn eo m ecap hm).mono ?_
    rintro e w ⟨⟨r, rfl⟩, rfl⟩
    cases r
    all_goals
      go_wp2
      go_ret
      exact ⟨rfl, Below.refl _ _⟩
  · have g1 : decide (4096 < (n : Int)) = false := by simp; omega
    have g2 : decide (4096 < (m : Int)) = true := by simp; omega
    go_enter Try.func6, Try.ntmps6
    go_wp2_with fail
    refine (bytesS_any (cap := cap) w hg hL hn eo m ecap hm).mono ?_
    rintro e w ⟨⟨r, rfl⟩, rfl⟩
    cases r
    all_goals
      go_wp2
      go_ret
      exact ⟨rfl, Below.refl _ _⟩

theorem grid_nil (w : World) : Grid w none 0 (fun _ => none) (fun _ => 0) (fun _ => 0) (fun _ _ => 0) 0 0 (fun _ => 0) (fun _ => 0) :=
  ⟨fun h => absurd h (Nat.lt_irrefl 0), fun i hi => absurd hi (Nat.not_lt_zero i), fun i hi => absurd hi (Nat.not_lt_zero i), fun i hi => absurd hi (Nat.not_lt_zero i)⟩

set_option maxRecDepth 100000 in
set_option maxHeartbeats 1000000 in
/-- No rows at all: nil. -/
theorem script_nil (w : World) (he : Edges w eo m eb ex S D) (hm : m ≤ 4096) :
    Calls Try.prog 6 #[.slice none 0 0, .slice eo m ecap] w fun e w' => e = .returned (.bool true) ∧ Below w.heap.size w w' := by
  have g2 : decide (4096 < (m : Int)) = false := by simp; omega
  have hg := grid_nil w
  go_enter Try.func6, Try.ntmps6
  go_wp2_with fail
  refine (bytesS_any (cap := 0) w hg (fun i hi => absurd hi (Nat.not_lt_zero i)) (Nat.zero_le _) eo m ecap (by unfold maxLen; omega)).mono ?_
  rintro e w ⟨⟨r, rfl⟩, rfl⟩
  cases r with
  | false =>
    go_wp2
    go_ret
    exact ⟨rfl, Below.refl _ _⟩
  | true =>
    go_wp2_with fail
    refine (rowsBytes_any (cap := 0) w hg (fun i hi => absurd hi (Nat.not_lt_zero i)) (Nat.zero_le _) (16 * (m : Int)) (by omega) (by omega)).mono ?_
    rintro e w ⟨r, rfl, rfl, hfit⟩
    by_cases hr : 1048576 < r
    · go_wp2_with fail
      go_ret
      exact ⟨rfl, Below.refl _ _⟩
    · go_wp2_with fail
      go_loop [5] (fun i => i = .int .i64 0) (fun _ => 0)
      case atStart => rfl
      case round =>
        obtain rfl := hrel
        by_cases hm0 : 0 < m
        · have e := he.addr hm0
          subst e
          have c := he.src 0 hm0
          rw [Nat.zero_mul, Nat.add_zero] at c
          have hm1 : (0 : Int) < (m : Int) := by omega
          by_cases hs0 : S 0 < 0
          · go_wp2_with fail
            go_ret
            exact ⟨rfl, Below.refl _ _⟩
          · have hs0' : decide (S 0 < 0) = false := by simpa using hs0
            have hs1 : decide (0 ≤ S 0) = true := by simp; omega
            go_wp2_with fail
            go_ret
            exact ⟨rfl, Below.refl _ _⟩
        · obtain rfl : m = 0 := by omega
          go_wp2_with fail
          refine (copy_nil w).mono ?_
          rintro e w ⟨rfl, rfl⟩
          go_wp2_with fail
          refine (new_any w none 0 0).mono ?_
          rintro e w3 ⟨rfl, hw3⟩
          have hb3 : Below w.heap.size w w3 := by rw [hw3]; exact (Below.refl _ w).alloc (Nat.le_refl _) _
          have c3 : w3.cell? ⟨w.heap.size, 2, none⟩ = some (.slice none 0 0) := by rw [hw3]; simp
          clear hw3
          go_wp2_with fail
          go_loop [7] (fun i => i = .int .i64 0) (fun _ => 0)
          case atStart => rfl
          case round =>
            obtain rfl := hrel
            go_wp2_with fail
            refine (next_any w3 _ _ c3 ⟨_, _, _, rfl⟩).mono ?_
            rintro e w3 ⟨rfl, rfl⟩
            go_wp2_with fail
            go_loop [9] (fun i => i = .int .i64 0) (fun _ => 0)
            case atStart => rfl
            case round =>
              obtain rfl := hrel
              go_wp2_with fail
              go_ret
              exact ⟨rfl, hb3⟩

end
end Go.Proofs.Qxb6615984a
