/-
  'zzDecode' (function 11) over a string whose bytes lie as the text of a violation lays them.
-/
import Derived.Test.Qxb6615984aFmtWalkB
import Derived.Deep.QuietTactic
import Derived.BigQuiet
namespace Go.Proofs.Qxb6615984aFmt
open Go.RowKit

/-- The bytes of s: 'line ', a sign or none up to st, L digits whose values V adds up, ': ', R bytes that are no space, a space. -/
structure Lies (s : ByteArray) (st L R : Nat) (V : Nat → Nat) : Prop where
  room : st + L + 2 + R < s.size
  pre : s.extract 0 5 = ⟨#[108, 105, 110, 101, 32]⟩
  pos : 0 < L
  dig : ∀ k (h : k < s.size), st ≤ k → k < st + L → 48 ≤ (s[k].toNat : Int) ∧ (s[k].toNat : Int) ≤ 57
  val : ∀ k (h : k < s.size), st ≤ k → k < st + L → (V (k - st + 1) : Int) = V (k - st) * 10 + (s[k].toNat - 48)
  zero : V 0 = 0
  mono : ∀ k, k ≤ L → V k ≤ V L
  colon : ∀ h : st + L < s.size, s[st + L] = 58
  blank : ∀ h : st + L + 1 < s.size, s[st + L + 1] = 32
  rule : ∀ k (h : k < s.size), st + L + 2 ≤ k → k < st + L + 2 + R → s[k] ≠ 32
  stop : ∀ h : st + L + 2 + R < s.size, s[st + L + 2 + R] = 32

theorem byte_eq {b c : UInt8} {n : Int} (h : b = c) (hn : n = (c.toNat : Int)) : ((b.toNat : Int) == n) = true := by
  rw [h, hn]; simp

set_option maxHeartbeats 400000 in
theorem decode_pos (s : ByteArray) (L R : Nat) (V : Nat → Nat) (w : World) (hl : Lies s 5 L R V) (hs : s.size ≤ 4194304) (hV : V L ≤ 9223372036854775807) :
    Calls Tryf.prog 11 #[.string s] w fun e w' => e = .returned (.tuple #[.int .i64 (V L : Int), .string (s.extract (5 + L + 2) (5 + L + 2 + R)), .string (s.extract (5 + L + 2 + R + 1) s.size), .bool true]) ∧ ∃ n, w' = w.drewN n := by
  have hroom := hl.room
  have hpos := hl.pos
  have hpre := hl.pre
  have h5 : 5 < s.size := by omega
  have hd5 := hl.dig 5 h5 (by omega) (by omega)
  have hn5 : ((s[5].toNat : Int) == 45) = false := by rw [beq_eq_false_iff_ne]; omega
  have hz5 : decide ((s.size : Int) < 5) = false := by simp; omega
  clear hd5
  go_enter Tryf.func11, Tryf.ntmps11
  go_wp2
  clear hpre hn5
  go_loop [6, 9] (fun i v => ∃ k : Nat, k ≤ L ∧ i = .int .i64 ((5 + k : Nat) : Int) ∧ v = .int .i64 (-(V k : Int))) (fun i _ => s.size - (intOf i).toNat)
  case atStart => exact ⟨0, Nat.zero_le _, rfl, by rw [hl.zero]; rfl⟩
  case round =>
    obtain ⟨k, hk, rfl, rfl⟩ := hrel
    by_cases hlt : k < L
    · have hks : 5 + k < s.size := by omega
      obtain ⟨g1, g2⟩ := hl.dig (5 + k) hks (by omega) (by omega)
      have g3 := hl.val (5 + k) hks (by omega) (by omega)
      have g4 := hl.mono (k + 1) (by omega)
      rw [show 5 + k - 5 = k by omega] at g3
      have g5 : (V k : Int) * 10 ≤ 9223372036854775807 := by omega
      have G3 : Hid _ := g3
      have g6 : (V k : Int) * 10 + (s[5 + k].toNat - 48) ≤ 9223372036854775807 := by omega
      clear g3 g4
      generalize V k = u at *
      go_wp2
      refine ⟨⟨k + 1, by omega, by go_num, ?_⟩, by simp [intOf]; omega⟩
      rw [G3.out]; congr 1; omega
    · obtain rfl : k = L := by omega
      have c1 : s[5 + k] = 58 := hl.colon (by omega)
      have c2 : s[5 + k + 1] = 32 := hl.blank (by omega)
      have c3 : decide ((s.size : Int) ≤ 5 + (k : Int) + 1) = false := by simp; omega
      have c4 : ((5 + (k : Int)) == 5) = false := by rw [beq_eq_false_iff_ne]; omega
      go_wp2
      clear c1 c2 c3 c4
      go_loop [10] (fun j => ∃ m : Nat, m ≤ R ∧ j = .int .i64 ((5 + k + 2 + m : Nat) : Int)) (fun j => s.size - (intOf j).toNat)
      case atStart => exact ⟨0, Nat.zero_le _, by go_num⟩
      case round =>
        obtain ⟨m, hm, rfl⟩ := hrel
        by_cases hmr : m < R
        · have hks : 5 + k + 2 + m < s.size := by omega
          have g := hl.rule (5 + k + 2 + m) hks (by omega) (by omega)
          have g1 : ((s[5 + k + 2 + m].toNat : Int) != 32) = true := by
            rw [bne, byte_ne _ 32 32 g rfl]; rfl
          clear g
          go_wp2
          exact ⟨⟨m + 1, by omega, by go_num⟩, by simp [intOf]; omega⟩
        · obtain rfl : m = R := by omega
          have c1 : s[5 + k + 2 + m] = 32 := hl.stop (by omega)
          have c3 : decide ((s.size : Int) ≤ 5 + (k : Int) + 2 + (m : Int)) = false := by simp; omega
          go_wp2
          clear c1 c3
          go_quiet (fail)
          go_wp2
          exact bodyPost_ret (v := .tuple #[.int .i64 (V k : Int), .string (s.extract (5 + k + 2) (5 + k + 2 + m)), .string (s.extract (5 + k + 2 + m + 1) s.size), .bool true]) (by simp [results, Tryf.results11, go_sem]) rfl ⟨rfl, nq, rfl⟩

set_option maxHeartbeats 400000 in
theorem decode_neg (s : ByteArray) (L R : Nat) (V : Nat → Nat) (w : World) (hl : Lies s 6 L R V) (hm : ∀ h : 5 < s.size, s[5] = 45) (hs : s.size ≤ 4194304) (hV : V L ≤ 9223372036854775808) :
    Calls Tryf.prog 11 #[.string s] w fun e w' => e = .returned (.tuple #[.int .i64 (-(V L : Int)), .string (s.extract (6 + L + 2) (6 + L + 2 + R)), .string (s.extract (6 + L + 2 + R + 1) s.size), .bool true]) ∧ ∃ n, w' = w.drewN n := by
  have hroom := hl.room
  have hpos := hl.pos
  have hpre := hl.pre
  have h5 : 5 < s.size := by omega
  have hn5 : s[5] = 45 := hm h5
  have hz5 : decide ((s.size : Int) < 5) = false := by simp; omega
  go_enter Tryf.func11, Tryf.ntmps11
  go_wp2
  clear hpre hn5
  go_loop [6, 9] (fun i v => ∃ k : Nat, k ≤ L ∧ i = .int .i64 ((6 + k : Nat) : Int) ∧ v = .int .i64 (-(V k : Int))) (fun i _ => s.size - (intOf i).toNat)
  case atStart => exact ⟨0, Nat.zero_le _, rfl, by rw [hl.zero]; rfl⟩
  case round =>
    obtain ⟨k, hk, rfl, rfl⟩ := hrel
    by_cases hlt : k < L
    · have hks : 6 + k < s.size := by omega
      obtain ⟨g1, g2⟩ := hl.dig (6 + k) hks (by omega) (by omega)
      have g3 := hl.val (6 + k) hks (by omega) (by omega)
      have g4 := hl.mono (k + 1) (by omega)
      rw [show 6 + k - 6 = k by omega] at g3
      have g5 : (V k : Int) * 10 ≤ 9223372036854775808 := by omega
      have G3 : Hid _ := g3
      have g6 : (V k : Int) * 10 + (s[6 + k].toNat - 48) ≤ 9223372036854775808 := by omega
      clear g3 g4
      generalize V k = u at *
      go_wp2
      refine ⟨⟨k + 1, by omega, by go_num, ?_⟩, by simp [intOf]; omega⟩
      rw [G3.out]; congr 1; omega
    · obtain rfl : k = L := by omega
      have c1 : s[6 + k] = 58 := hl.colon (by omega)
      have c2 : s[6 + k + 1] = 32 := hl.blank (by omega)
      have c3 : decide ((s.size : Int) ≤ 6 + (k : Int) + 1) = false := by simp; omega
      have c4 : ((6 + (k : Int)) == 6) = false := by rw [beq_eq_false_iff_ne]; omega
      go_wp2
      clear c1 c2 c3 c4
      go_loop [10] (fun j => ∃ m : Nat, m ≤ R ∧ j = .int .i64 ((6 + k + 2 + m : Nat) : Int)) (fun j => s.size - (intOf j).toNat)
      case atStart => exact ⟨0, Nat.zero_le _, by go_num⟩
      case round =>
        obtain ⟨m, hmm, rfl⟩ := hrel
        by_cases hmr : m < R
        · have hks : 6 + k + 2 + m < s.size := by omega
          have g := hl.rule (6 + k + 2 + m) hks (by omega) (by omega)
          have g1 : ((s[6 + k + 2 + m].toNat : Int) != 32) = true := by
            rw [bne, byte_ne _ 32 32 g rfl]; rfl
          clear g
          go_wp2
          exact ⟨⟨m + 1, by omega, by go_num⟩, by simp [intOf]; omega⟩
        · obtain rfl : m = R := by omega
          have c1 : s[6 + k + 2 + m] = 32 := hl.stop (by omega)
          have c3 : decide ((s.size : Int) ≤ 6 + (k : Int) + 2 + (m : Int)) = false := by simp; omega
          go_wp2
          clear c1 c3
          go_quiet (fail)
          go_wp2
          exact bodyPost_ret (v := .tuple #[.int .i64 (-(V k : Int)), .string (s.extract (6 + k + 2) (6 + k + 2 + m)), .string (s.extract (6 + k + 2 + m + 1) s.size), .bool true]) (by simp [results, Tryf.results11, go_sem]) rfl ⟨rfl, nq, rfl⟩

end Go.Proofs.Qxb6615984aFmt
