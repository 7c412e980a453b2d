/-
  A SLICE OF SLICES OF INTS, AS THE WALKS READ IT; the walks that only count its bytes.
-/
import Derived.Test.Qxb6615984aRows
import Derived.WalkKit
import Derived.WalkSpells
import Derived.WalkLawsBesides
namespace Go.Proofs.Qxb6615984a
open Go.RowKit

/-- '[][]int' of n rows at ⟨b, o⟩: row i's header is '.slice (A i) (L i) (C i)', its number j is 'Z i j'. -/
structure Grid (w : World) (ao : Option Addr) (n : Nat) (A : Nat → Option Addr) (L C : Nat → Nat) (Z : Nat → Nat → Int) (b o : Nat) (Ab Ao : Nat → Nat) : Prop where
  addr : 0 < n → ao = some ⟨b, o, none⟩
  top : ∀ i, i < n → w.cell? ⟨b, o + i, none⟩ = some (.slice (A i) (L i) (C i))
  raddr : ∀ i, i < n → 0 < L i → A i = some ⟨Ab i, Ao i, none⟩
  cell : ∀ i, i < n → ∀ j, j < L i → w.cell? ⟨Ab i, Ao i + j, none⟩ = some (.int .i64 (Z i j))

theorem Grid.below {w w' : World} {ao : Option Addr} {n : Nat} {A : Nat → Option Addr} {L C : Nat → Nat} {Z : Nat → Nat → Int} {b o : Nat} {Ab Ao : Nat → Nat}
    (h : Grid w ao n A L C Z b o Ab Ao) (hb : Below w.heap.size w w') : Grid w' ao n A L C Z b o Ab Ao :=
  ⟨h.addr, fun i hi => by rw [hb.cell (World.block_lt_of_cell? w _ (h.top i hi))]; exact h.top i hi, h.raddr,
   fun i hi j hj => by rw [hb.cell (World.block_lt_of_cell? w _ (h.cell i hi j hj))]; exact h.cell i hi j hj⟩

/-- What zzRowsBytes's answer r tells, where it is within the bound. -/
def Fits (n : Nat) (L : Nat → Nat) (r : Int) : Prop := r ≤ 1048576 → n ≤ 4096 ∧ ∀ i, i < n → L i ≤ 1048576
theorem Fits.big (n : Nat) (L : Nat → Nat) : Fits n L 1048577 := fun h => absurd h (by decide)

/-- A bool is handed back. -/
def SomeBool (e : Ending) : Prop := ∃ r : Bool, e = .returned (.bool r)
theorem SomeBool.mk (r : Bool) : SomeBool (.returned (.bool r)) := ⟨r, rfl⟩

section
variable {ao : Option Addr} {n cap : Nat} {A : Nat → Option Addr} {L C : Nat → Nat} {Z : Nat → Nat → Int} {b o : Nat} {Ab Ao : Nat → Nat}

set_option maxHeartbeats 400000 in
/-- 'zzRowsBytes': whatever it answers; where that is within the bound, so is each row. -/
theorem rowsBytes_any (w : World) (hg : Grid w ao n A L C Z b o Ab Ao) (hL : ∀ i, i < n → L i ≤ maxLen) (hn : n ≤ maxLen) (total : Int) (h0 : 0 ≤ total) (h1 : total ≤ 1048576) :
    Calls Try.prog 13 #[.slice ao n cap, .int .i64 total] w fun e w' => ∃ r : Int, e = .returned (.int .i64 r) ∧ w' = w ∧ Fits n L r := by
  unfold maxLen at hL hn
  by_cases h4 : n ≤ 4096
  · have g1 : decide (4096 < (n : Int)) = false := by simp; omega
    have g2 : decide (1048576 < total) = false := by simp; omega
    go_enter Try.func13, Try.ntmps13
    go_wp2
    go_loop [1, 5] (fun t i => ∃ (k : Nat) (T : Int), k ≤ n ∧ i = .int .i64 k ∧ t = .int .i64 T ∧ 0 ≤ T ∧ T ≤ 2097152 ∧ ∀ i, i < k → L i ≤ 1048576) (fun _ i => n - (intOf i).toNat)
    case atStart => exact ⟨0, _, Nat.zero_le _, rfl, rfl, by omega, by omega, fun i hi => by omega⟩
    case round =>
      obtain ⟨k, T, hk, rfl, rfl, hT0, hT1, hkL⟩ := hrel
      by_cases hlt : k < n
      · have e := hg.addr (by omega)
        subst e
        have c := hg.top k hlt
        have hLk := hL k hlt
        go_wp2
        · go_ret
          exact ⟨_, rfl, rfl, Fits.big n L⟩
        · go_ret
          exact ⟨_, rfl, rfl, Fits.big n L⟩
        · refine ⟨⟨k + 1, _, by omega, by go_num, rfl, by omega, by omega, fun i hi => ?_⟩, by simp [intOf]; omega⟩
          by_cases hik : i = k
          · subst hik; omega
          · exact hkL i (by omega)
      · go_wp2
        go_ret
        exact ⟨_, rfl, rfl, fun _ => ⟨h4, fun i hi => hkL i (by omega)⟩⟩
  · have g1 : decide (4096 < (n : Int)) = true := by simp; omega
    go_enter Try.func13, Try.ntmps13
    go_wp2
    go_ret
    exact ⟨_, rfl, rfl, Fits.big n L⟩

set_option maxHeartbeats 400000 in
/-- 'zzBytes_FnEdgeCommutesAcrossRows': whatever it answers. -/
theorem bytesC_any (w : World) (hg : Grid w ao n A L C Z b o Ab Ao) (hL : ∀ i, i < n → L i ≤ maxLen) (hn : n ≤ maxLen) (x y z u : Int) :
    Calls Try.prog 12 #[.slice ao n cap, .int .i64 x, .int .i64 y, .int .i64 z, .int .i64 u] w fun e w' => SomeBool e ∧ w' = w := by
  unfold maxLen at hL hn
  by_cases h4 : n ≤ 1048576
  · go_enter Try.func12, Try.ntmps12
    go_wp2
    go_loop [11, 12] (fun t i => ∃ (k : Nat) (T : Int), k ≤ n ∧ i = .int .i64 k ∧ t = .int .i64 T ∧ 0 ≤ T ∧ T ≤ 1048576) (fun _ i => n - (intOf i).toNat)
    case atStart => exact ⟨0, _, Nat.zero_le _, rfl, rfl, by omega, by omega⟩
    case round =>
      obtain ⟨k, T, hk, rfl, rfl, hT0, hT1⟩ := hrel
      by_cases hlt : k < n
      · have e := hg.addr (by omega)
        subst e
        have c := hg.top k hlt
        have hLk := hL k hlt
        go_wp2
        · go_ret
          exact ⟨SomeBool.mk _, rfl⟩
        · go_ret
          exact ⟨SomeBool.mk _, rfl⟩
        · exact ⟨⟨k + 1, _, by omega, by go_num, rfl, by omega, by omega⟩, by simp [intOf]; omega⟩
      · go_wp2
        go_ret
        exact ⟨SomeBool.mk _, rfl⟩
  · go_enter Try.func12, Try.ntmps12
    go_wp2
    go_ret
    exact ⟨SomeBool.mk _, rfl⟩

set_option maxHeartbeats 400000 in
/-- 'zzBytes_FnEdgeScriptAppendsInOrder': whatever it answers. -/
theorem bytesS_any (w : World) (hg : Grid w ao n A L C Z b o Ab Ao) (hL : ∀ i, i < n → L i ≤ maxLen) (hn : n ≤ maxLen) (eo : Option Addr) (m ecap : Nat) (hm : m ≤ maxLen) :
    Calls Try.prog 20 #[.slice ao n cap, .slice eo m ecap] w fun e w' => SomeBool e ∧ w' = w := by
  unfold maxLen at hL hn hm
  by_cases h4 : n ≤ 1048576
  · go_enter Try.func20, Try.ntmps20
    go_wp2
    go_loop [5, 6] (fun t i => ∃ (k : Nat) (T : Int), k ≤ n ∧ i = .int .i64 k ∧ t = .int .i64 T ∧ 0 ≤ T ∧ T ≤ 1048576) (fun _ i => n - (intOf i).toNat)
    case atStart => exact ⟨0, _, Nat.zero_le _, rfl, rfl, by omega, by omega⟩
    case round =>
      obtain ⟨k, T, hk, rfl, rfl, hT0, hT1⟩ := hrel
      by_cases hlt : k < n
      · have e := hg.addr (by omega)
        subst e
        have c := hg.top k hlt
        have hLk := hL k hlt
        go_wp2
        · go_ret
          exact ⟨SomeBool.mk _, rfl⟩
        · go_ret
          exact ⟨SomeBool.mk _, rfl⟩
        · exact ⟨⟨k + 1, _, by omega, by go_num, rfl, by omega, by omega⟩, by simp [intOf]; omega⟩
      · go_wp2
        all_goals
          go_ret
          exact ⟨SomeBool.mk _, rfl⟩
  · go_enter Try.func20, Try.ntmps20
    go_wp2
    go_ret
    exact ⟨SomeBool.mk _, rfl⟩

end
end Go.Proofs.Qxb6615984a
