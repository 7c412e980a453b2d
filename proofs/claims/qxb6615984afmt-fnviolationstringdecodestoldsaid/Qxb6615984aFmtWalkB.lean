/-
  THE SMALL WALKS of 'FnViolationStringDecodes': the bound, 'zzAdd', 'zzHasSpace'.
-/
import Derived.Test.Qxb6615984aFmtRows
import Derived.WalkKit
import Derived.WalkSpells
import Derived.WalkLawsBesides
namespace Go.Proofs.Qxb6615984aFmt
open Go.RowKit

set_option maxHeartbeats 400000 in
/-- 'zzBytes_FnViolationStringDecodes', where the bytes are within the bound. -/
theorem bytesDec_yes (l1 l2 : Int) (r1 m1 r2 m2 : ByteArray) (w : World) (h : r1.size + m1.size + r2.size + m2.size ≤ 1048576) :
    Calls Tryf.prog 8 #[.int .i64 l1, .string r1, .string m1, .int .i64 l2, .string r2, .string m2] w fun e w' => e = .returned (.bool true) ∧ w' = w := by
  go_enter Tryf.func8, Tryf.ntmps8
  go_wp2
  go_ret
  exact ⟨rfl, rfl⟩

set_option maxHeartbeats 400000 in
/-- .. and where they are not. -/
theorem bytesDec_no (l1 l2 : Int) (r1 m1 r2 m2 : ByteArray) (w : World) (h : 1048576 < r1.size + m1.size + r2.size + m2.size) :
    Calls Tryf.prog 8 #[.int .i64 l1, .string r1, .string m1, .int .i64 l2, .string r2, .string m2] w fun e w' => e = .returned (.bool false) ∧ w' = w := by
  go_enter Tryf.func8, Tryf.ntmps8
  go_wp2
  all_goals
    first
      | (go_ret; exact ⟨rfl, rfl⟩)
      | (exfalso; omega)

set_option maxHeartbeats 400000 in
/-- 'zzAdd' below the bound. -/
theorem add_small (a b : Int) (w : World) (h0 : 0 ≤ a) (h1 : 0 ≤ b) (h2 : a + b ≤ 1048576) :
    Calls Tryf.prog 9 #[.int .i64 a, .int .i64 b] w fun e w' => e = .returned (.int .i64 (a + b)) ∧ w' = w := by
  have g1 : decide (1048576 < a) = false := by simp; omega
  have g2 : decide (1048576 < b) = false := by simp; omega
  go_enter Tryf.func9, Tryf.ntmps9
  go_wp2
  go_ret
  exact ⟨rfl, rfl⟩

theorem byte_at (s : ByteArray) (k : Nat) (h : k < s.size) : s.data.toList[k]? = some s[k] := by
  rw [Array.getElem?_toList, Array.getElem?_eq_getElem (xs := s.data) h]; rfl

theorem byte_mem (s : ByteArray) (k : Nat) (h : k < s.size) : s[k] ∈ s.data.toList := List.mem_of_getElem? (byte_at s k h)

theorem byte_ne (b c : UInt8) (n : Int) (h : b ≠ c) (hn : n = (c.toNat : Int)) : ((b.toNat : Int) == n) = false := by
  rw [beq_eq_false_iff_ne]
  intro e
  exact h (UInt8.toNat_inj.1 (by omega))

set_option maxHeartbeats 400000 in
/-- 'zzHasSpace' of a string without a space. -/
theorem space_no (s : ByteArray) (w : World) (hs : s.size ≤ 1048576) (hn : (32 : UInt8) ∉ s.data.toList) :
    Calls Tryf.prog 10 #[.string s] w fun e w' => e = .returned (.bool false) ∧ w' = w := by
  go_enter Tryf.func10, Tryf.ntmps10
  go_wp2
  go_loop [3] (fun i => ∃ k : Nat, k ≤ s.size ∧ i = .int .i64 k) (fun i => s.size - (intOf i).toNat)
  case atStart => exact ⟨0, Nat.zero_le _, rfl⟩
  case round =>
    obtain ⟨k, hk, rfl⟩ := hrel
    by_cases hlt : k < s.size
    · have hb : ((s[k].toNat : Int) == 32) = false := byte_ne s[k] 32 32 (fun e => hn (by rw [← e]; exact byte_mem s k hlt)) rfl
      go_wp2
      exact ⟨⟨k + 1, by omega, by go_num⟩, by simp [intOf]; omega⟩
    · go_wp2
      go_ret
      exact ⟨rfl, rfl⟩

set_option maxHeartbeats 400000 in
/-- 'zzHasSpace' of a string with one. -/
theorem space_yes (s : ByteArray) (w : World) (hs : s.size ≤ 1048576) (hn : (32 : UInt8) ∈ s.data.toList) :
    Calls Tryf.prog 10 #[.string s] w fun e w' => e = .returned (.bool true) ∧ w' = w := by
  obtain ⟨p, hp, hpe⟩ := List.mem_iff_getElem.1 hn
  have hps : p < s.size := by rw [Array.length_toList] at hp; exact hp
  have hpb : Hid (s[p] = 32) := by
    have e := byte_at s p hps
    rw [List.getElem?_eq_getElem hp, hpe] at e
    exact (Option.some.inj e).symm
  clear hpe hp hn
  go_enter Tryf.func10, Tryf.ntmps10
  go_wp2
  go_loop [3] (fun i => ∃ k : Nat, k ≤ p ∧ i = .int .i64 k) (fun i => s.size - (intOf i).toNat)
  case atStart => exact ⟨0, Nat.zero_le _, rfl⟩
  case round =>
    obtain ⟨k, hk, rfl⟩ := hrel
    have hlt : k < s.size := by omega
    by_cases hkp : k = p
    · subst hkp
      have hb : ((s[k].toNat : Int) == 32) = true := by rw [hpb.out]; rfl
      go_wp2
      go_ret
      exact ⟨rfl, rfl⟩
    · go_wp2
      · go_ret
        exact ⟨rfl, rfl⟩
      · exact ⟨⟨k + 1, by omega, by go_num⟩, by simp [intOf]; omega⟩

end Go.Proofs.Qxb6615984aFmt
