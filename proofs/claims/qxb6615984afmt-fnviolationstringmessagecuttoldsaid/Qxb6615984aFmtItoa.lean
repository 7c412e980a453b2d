/-
  'zzItoa' (function 7) writes the decimal numeral.
-/
import Derived.Test.Qxb6615984aFmtRows
import Derived.Test.Qxb6615984aFmtPlain
import Derived.WalkKit
import Derived.WalkSpells
import Derived.WalkLawsBesides
namespace Go.Proofs.Qxb6615984aFmt
open Go.RowKit

set_option maxHeartbeats 400000 in
theorem itoa_zero (w : World) : Calls Tryf.prog 7 #[.int .i64 0] w fun e w' => e = .returned (.string ⟨#[48]⟩) ∧ w' = w := by
  go_enter Tryf.func7, Tryf.ntmps7
  go_wp2
  go_ret
  exact ⟨rfl, rfl⟩

/-- What the buffer holds after some rounds: the numeral's last digits, at its end. -/
structure Tail (arr : Array Value) (p : Nat) (suf : List UInt8) : Prop where
  size : arr.size = 24
  len : p + suf.length = 24
  at_ : ∀ j, j < suf.length → arr[p + j]? = some (.int .u8 ((suf.getD j 0).toNat : Int))

theorem Tail.step {arr : Array Value} {q : Nat} {suf : List UInt8} (h : Tail arr (q + 1) suf) (c : UInt8) : Tail (arr.setIfInBounds q (.int .u8 (c.toNat : Int))) q (c :: suf) := by
  refine ⟨by simp [h.size], by have := h.len; simp; omega, ?_⟩
  intro j hj
  have hl := h.len
  have hs := h.size
  cases j with
  | zero => simp [Array.getElem?_setIfInBounds]; omega
  | succ j =>
    have := h.at_ j (by simpa using hj)
    rw [Array.getElem?_setIfInBounds, if_neg (by omega), show q + (j + 1) = q + 1 + j by omega, this]
    simp

theorem Tail.get {arr : Array Value} {p : Nat} {suf : List UInt8} (h : Tail arr p suf) (i : Nat) (hi : i < 24) : ∃ v, arr[i]? = some v :=
  ⟨arr[i]'(by rw [h.size]; exact hi), Array.getElem?_eq_getElem _⟩

theorem tail_slice {arr : Array Value} {p : Nat} {suf : List UInt8} (h : Tail arr p suf) (hs : suf ≠ []) (b : Nat) (wx : World) :
    (Instr.sliceAt 34 (.pointer (some ⟨b, 0, none⟩)) (some (.int .i64 (p : Int))) none none).run Tryf.prog wx = .ok (.slice (some ⟨b, p, none⟩) suf.length suf.length) wx := by
  have hl := h.len
  have hp : 0 < suf.length := by
    cases suf with
    | nil => exact absurd rfl hs
    | cons c l => simp
  have hal : Tryf.prog.arrayLen 34 = 24 := by kernel_rfl
  have hel : Tryf.prog.elem 34 = 5 := by kernel_rfl
  have hc : Tryf.prog.cellsOf 5 = 1 := by kernel_rfl
  rw [run_sliceAt_array_l wx 34 ⟨b, 0, none⟩ (by kernel_rfl) .i64 (p : Int) (by omega) (by rw [hal]; omega), hal, hel]
  have hz : (sizeOf 5).run Tryf.prog wx = .ok 1 wx := by kernel_rfl
  rw [hz]
  simp only [Result.andThen, slicedAt]
  rw [if_neg (by simp; omega)]
  simp [Addr.add]
  omega

theorem tail_convert {arr : Array Value} {p : Nat} {suf : List UInt8} (h : Tail arr p suf) (w : World) :
    (convert 35 9 (.slice (some ⟨w.heap.size, p, none⟩) suf.length suf.length)).run Tryf.prog (w.alloc (.cells arr 34)) = .ok (.string ⟨suf.toArray⟩) (w.alloc (.cells arr 34)) := by
  refine run_convert_bytes_back _ 35 9 5 _ _ suf Tryf.underlying35 Tryf.underlying5 Tryf.underlying9 (fun j hj => ?_)
  rw [Lib.add_plain, World.cell?_alloc_new, h.at_ j hj]
  simp [List.getD, List.getElem?_eq_getElem hj]

theorem ret_str {a b : List UInt8} (h : a = b) : Ending.returned (.string ⟨b.toArray⟩) = .returned (.string ⟨a.toArray⟩) := by rw [h]

theorem digit_cell (m : Nat) : (48 + (m : Int) % 10) = ((UInt8.ofNat (48 + m % 10)).toNat : Int) := by
  rw [Plain.ofNat_digit (by omega)]; omega

theorem itoa_rep {u : Nat} (h : 0 < u) : Lib.itoa (u : Int) = Plain.rep u := by
  rw [Lib.itoa_nonneg, Plain.rep_pos (by omega)]
theorem itoa_rep_neg {u : Nat} (h : 0 < u) : Lib.itoa (-(u : Int)) = 45 :: Plain.rep u := by
  rw [Lib.itoa_neg u h, Plain.rep_pos (by omega)]

set_option maxHeartbeats 400000 in
theorem itoa_pos (u : Nat) (w : World) (h0 : 0 < u) (h1 : u ≤ 9223372036854775807) : Calls Tryf.prog 7 #[.int .i64 (u : Int)] w fun e w' =>
    e = .returned (.string ⟨(Lib.itoa u).toArray⟩) ∧ Below w.heap.size w w' := by
  have hne : ((u : Int) == 0) = false := beq_eq_false_iff_ne.2 (by omega)
  have hnn : decide ((u : Int) < 0) = false := by simp
  have hlen := Plain.rep_length_le (u := u) (by omega)
  go_enter Tryf.func7, Tryf.ntmps7
  go_wp2
  go_loopw [0, 4] (fun n i wr => ∃ (m p : Nat) (suf : List UInt8) (arr : Array Value), n = .int .i64 (m : Int) ∧ m ≤ u ∧ i = .int .i64 (p : Int) ∧ Tail arr p suf ∧ Hid (Plain.rep u = Plain.rep m ++ suf) ∧ wr = w.alloc (.cells arr 34)) (fun n _ _ => (intOf n).toNat)
  case atStart => exact ⟨u, 24, [], _, rfl, Nat.le_refl _, rfl, ⟨rfl, rfl, fun j hj => by simp at hj⟩, (by simp : Plain.rep u = Plain.rep u ++ []), rfl⟩
  case round =>
    obtain ⟨m, p, suf, arr, rfl, hm, rfl, ht, hid, rfl⟩ := hrel
    by_cases hz : m = 0
    · subst hz
      have hsuf : Hid (Lib.itoa (u : Int) = suf) := by
        show Lib.itoa (u : Int) = suf
        rw [itoa_rep h0, hid.out, Plain.rep_zero]; rfl
      have hsne : suf ≠ [] := by
        intro e
        have := hsuf.out
        rw [e, itoa_rep h0, Plain.rep_pos (by omega)] at this
        exact Plain.decDigits_ne _ this
      have hsl := tail_slice ht hsne w.heap.size
      have hcv := tail_convert ht w
      go_wp2
      go_ret
      exact ⟨ret_str hsuf.out, (Below.refl _ w).alloc (Nat.le_refl _) _⟩
    · have hz' : ((m : Int) != 0) = true := by rw [bne_iff_ne]; omega
      have hs := Plain.rep_step hz
      have hid2 : Hid (Plain.rep u = Plain.rep (m / 10) ++ (UInt8.ofNat (48 + m % 10) :: suf)) := by
        show Plain.rep u = _
        rw [hid.out, hs, List.append_assoc]; rfl
      have hl2 : suf.length < 20 := by
        have e := congrArg List.length hid2.out
        simp at e; omega
      obtain ⟨q, rfl⟩ : ∃ q, p = q + 1 := ⟨p - 1, by have := ht.len; omega⟩
      obtain ⟨v, hv⟩ := ht.get q (by have := ht.len; omega)
      have hq : q < 24 := by have := ht.len; omega
      clear hs
      go_wp2
      refine ⟨⟨m / 10, q, UInt8.ofNat (48 + m % 10) :: suf, _, by go_num, by omega, rfl, ht.step _, hid2, by rw [digit_cell]⟩, by simp [intOf]; omega⟩

theorem neg_rem (m : Nat) : (-(m : Int)).tmod 10 = -((m % 10 : Nat) : Int) := by rw [Int.neg_tmod, Int.ofNat_tmod]; rfl
theorem neg_quo (m : Nat) : (-(m : Int)).tdiv 10 = -((m / 10 : Nat) : Int) := by rw [Int.neg_tdiv, Int.ofNat_tdiv]; rfl

set_option maxHeartbeats 400000 in
theorem itoa_negative (u : Nat) (w : World) (h0 : 0 < u) (h1 : u ≤ 9223372036854775808) : Calls Tryf.prog 7 #[.int .i64 (-(u : Int))] w fun e w' =>
    e = .returned (.string ⟨(Lib.itoa (-(u : Int))).toArray⟩) ∧ Below w.heap.size w w' := by
  have hne : (-(u : Int) == 0) = false := beq_eq_false_iff_ne.2 (by omega)
  have hnn : decide (-(u : Int) < 0) = true := by simp; omega
  have hlen := Plain.rep_length_le (u := u) (by omega)
  go_enter Tryf.func7, Tryf.ntmps7
  go_wp2
  go_loopw [0, 4] (fun n i wr => ∃ (m p : Nat) (suf : List UInt8) (arr : Array Value), n = .int .i64 (-(m : Int)) ∧ m ≤ u ∧ i = .int .i64 (p : Int) ∧ Tail arr p suf ∧ Hid (Plain.rep u = Plain.rep m ++ suf) ∧ wr = w.alloc (.cells arr 34)) (fun n _ _ => (-(intOf n)).toNat)
  case atStart => exact ⟨u, 24, [], _, rfl, Nat.le_refl _, rfl, ⟨rfl, rfl, fun j hj => by simp at hj⟩, (by simp : Plain.rep u = Plain.rep u ++ []), rfl⟩
  case round =>
    obtain ⟨m, p, suf, arr, rfl, hm, rfl, ht, hid, rfl⟩ := hrel
    by_cases hz : m = 0
    · subst hz
      have hsuf : Hid (Lib.itoa (-(u : Int)) = 45 :: suf) := by
        show Lib.itoa (-(u : Int)) = 45 :: suf
        rw [itoa_rep_neg h0, hid.out, Plain.rep_zero]; rfl
      have hl2 : suf.length ≤ 20 := by
        have e := congrArg List.length hid.out
        rw [Plain.rep_zero] at e
        simp at e; omega
      obtain ⟨q, rfl⟩ : ∃ q, p = q + 1 := ⟨p - 1, by have := ht.len; omega⟩
      obtain ⟨v, hv⟩ := ht.get q (by have := ht.len; omega)
      have hq : q < 24 := by have := ht.len; omega
      have ht' : Tail (arr.setIfInBounds q (.int .u8 45)) q (45 :: suf) := ht.step 45
      have hsl := tail_slice ht' (by simp) w.heap.size
      have hcv := tail_convert ht' w
      simp only [List.length_cons] at hsl hcv
      go_wp2
      go_ret
      exact ⟨ret_str hsuf.out, (Below.refl _ w).alloc (Nat.le_refl _) _⟩
    · have hz' : (-(m : Int) != 0) = true := by rw [bne_iff_ne]; omega
      have hs := Plain.rep_step hz
      have hid2 : Hid (Plain.rep u = Plain.rep (m / 10) ++ (UInt8.ofNat (48 + m % 10) :: suf)) := by
        show Plain.rep u = _
        rw [hid.out, hs, List.append_assoc]; rfl
      have hl2 : suf.length < 20 := by
        have e := congrArg List.length hid2.out
        simp at e; omega
      obtain ⟨q, rfl⟩ : ∃ q, p = q + 1 := ⟨p - 1, by have := ht.len; omega⟩
      obtain ⟨v, hv⟩ := ht.get q (by have := ht.len; omega)
      have hq : q < 24 := by have := ht.len; omega
      clear hs
      have hr := neg_rem m
      have hqo := neg_quo m
      have hlt : m % 10 < 10 := by omega
      by_cases hd : m % 10 = 0
      · go_wp2
        refine ⟨⟨m / 10, q, UInt8.ofNat (48 + m % 10) :: suf, _, by go_num, by omega, rfl, ht.step _, hid2, ?_⟩, by simp [intOf]; omega⟩
        rw [← digit_cell, show (48 + (m : Int) % 10) = 48 from by omega]
      · go_wp2
        refine ⟨⟨m / 10, q, UInt8.ofNat (48 + m % 10) :: suf, _, by go_num, by omega, rfl, ht.step _, hid2, by rw [digit_cell]⟩, by simp [intOf]; omega⟩

/-- 'zzItoa', at every int. -/
theorem itoa_all (n : Int) (w : World) (h0 : -9223372036854775808 ≤ n) (h1 : n ≤ 9223372036854775807) : Calls Tryf.prog 7 #[.int .i64 n] w fun e w' =>
    e = .returned (.string ⟨(Lib.itoa n).toArray⟩) ∧ Below w.heap.size w w' := by
  rcases Int.lt_trichotomy n 0 with h | h | h
  · obtain ⟨u, rfl⟩ : ∃ u : Nat, n = -(u : Int) := ⟨n.natAbs, by omega⟩
    exact itoa_negative u w (by omega) (by omega)
  · subst h
    refine (itoa_zero w).mono fun e w' ⟨he, hw⟩ => ?_
    subst he; subst hw
    exact ⟨ret_str (by rw [Lib.itoa, if_neg (by decide), Lib.decDigits, dif_pos (by decide)]; rfl), Below.refl _ _⟩
  · obtain ⟨u, rfl⟩ : ∃ u : Nat, n = (u : Int) := ⟨n.toNat, by omega⟩
    exact itoa_pos u w (by omega) (by omega)

end Go.Proofs.Qxb6615984aFmt
