/-
  PLAIN LAWS OVER BYTES for seat b6615984aF: the text 'line N: RULE MESSAGE', its cut, its reading back. No Go in sight.
-/
import Derived.Lib.ItoaMem
import Derived.Lib.ItoaLen
namespace Go.Proofs.Qxb6615984aFmt
namespace Plain
open Go.Lib

/-- The digits of u, none for 0. -/
def rep (u : Nat) : List UInt8 := if u = 0 then [] else decDigits u

theorem rep_zero : rep 0 = [] := by simp [rep]
theorem rep_pos {u : Nat} (h : u ≠ 0) : rep u = decDigits u := by simp [rep, h]

theorem rep_step {u : Nat} (h : u ≠ 0) : rep u = rep (u / 10) ++ [UInt8.ofNat (48 + u % 10)] := by
  unfold rep
  rw [if_neg h]
  by_cases h10 : u < 10
  · rw [decDigits, dif_pos h10, if_pos (by omega), Nat.mod_eq_of_lt h10]; rfl
  · rw [decDigits, dif_neg h10, if_neg (by omega)]

theorem rep_length_le {u : Nat} (h : u ≤ 9223372036854775808) : (rep u).length ≤ 20 := by
  unfold rep
  split
  · simp
  · rw [decDigits_length]; exact nDigits_le20 u (by omega)

/-- The text of a violation. -/
def vText (line : Int) (rule msg : List UInt8) : List UInt8 :=
  [108, 105, 110, 101, 32] ++ (itoa line ++ ([58, 32] ++ (rule ++ ([32] ++ msg))))

theorem vText_cut (line : Int) (rule msg : List UInt8) (k : Nat) : vText line rule (msg.take k) ++ msg.drop k = vText line rule msg := by
  simp [vText, List.append_assoc]

theorem vText_length (line : Int) (rule msg : List UInt8) : (vText line rule msg).length = 8 + (itoa line).length + rule.length + msg.length := by
  simp [vText]; omega

/-! ### Reading the digits back -/
def natOf (ds : List UInt8) : Nat := ds.foldl (fun v c => v * 10 + (c.toNat - 48)) 0

theorem natOf_snoc (ds : List UInt8) (c : UInt8) : natOf (ds ++ [c]) = natOf ds * 10 + (c.toNat - 48) := by
  simp [natOf]

theorem ofNat_digit {d : Nat} (h : d < 10) : (UInt8.ofNat (48 + d)).toNat = 48 + d := by
  simp; omega

theorem natOf_decDigits (u : Nat) : natOf (decDigits u) = u := by
  induction u using Nat.strongRecOn with
  | _ u ih =>
    by_cases h : u < 10
    · rw [decDigits, dif_pos h]
      simp only [natOf, List.foldl_cons, List.foldl_nil]
      rw [ofNat_digit h]; omega
    · rw [decDigits, dif_neg h, natOf_snoc, ih (u / 10) (by omega), ofNat_digit (by omega)]; omega

theorem digit_decDigits (u : Nat) : ∀ c ∈ decDigits u, 48 ≤ c.toNat ∧ c.toNat ≤ 57 := by
  induction u using Nat.strongRecOn with
  | _ u ih =>
    intro c hc
    by_cases h : u < 10
    · rw [decDigits, dif_pos h] at hc
      simp only [List.mem_singleton] at hc
      subst hc; rw [ofNat_digit h]; omega
    · rw [decDigits, dif_neg h] at hc
      rcases List.mem_append.1 hc with hc | hc
      · exact ih (u / 10) (by omega) c hc
      · simp only [List.mem_singleton] at hc
        subst hc; rw [ofNat_digit (by omega)]; omega

theorem decDigits_inj {a b : Nat} (h : decDigits a = decDigits b) : a = b := by
  rw [← natOf_decDigits a, ← natOf_decDigits b, h]

theorem decDigits_ne (u : Nat) : decDigits u ≠ [] := by
  intro h
  have := decDigits_length u
  have := nDigits_pos u
  rw [h] at *
  simp at *
  omega

theorem foldl_ge (ds : List UInt8) : ∀ v, v ≤ ds.foldl (fun v c => v * 10 + (c.toNat - 48)) v := by
  induction ds with
  | nil => intro v; exact Nat.le_refl _
  | cons c ds ih => intro v; simp only [List.foldl_cons]; exact Nat.le_trans (by omega) (ih _)

theorem natOf_take_le (ds : List UInt8) (k : Nat) : natOf (ds.take k) ≤ natOf ds := by
  have e : natOf ds = (ds.drop k).foldl (fun v c => v * 10 + (c.toNat - 48)) (natOf (ds.take k)) := by
    unfold natOf
    rw [← List.foldl_append, List.take_append_drop]
  rw [e]; exact foldl_ge _ _

/-! ### One text, one violation -/
theorem split_at {c : UInt8} : ∀ {a b x y : List UInt8}, a ++ c :: x = b ++ c :: y → c ∉ a → c ∉ b → a = b ∧ x = y
  | [], [], x, y, h, _, _ => by simpa using h
  | [], e :: b, x, y, h, _, hb => by
    simp only [List.nil_append, List.cons_append, List.cons.injEq] at h
    exact absurd (by rw [h.1]; simp) hb
  | e :: a, [], x, y, h, ha, _ => by
    simp only [List.nil_append, List.cons_append, List.cons.injEq] at h
    exact absurd (by rw [h.1]; simp) ha
  | e :: a, f :: b, x, y, h, ha, hb => by
    simp only [List.cons_append, List.cons.injEq] at h
    obtain ⟨h1, h2⟩ := split_at h.2 (fun hm => ha (List.mem_cons_of_mem _ hm)) (fun hm => hb (List.mem_cons_of_mem _ hm))
    exact ⟨by rw [h.1, h1], h2⟩

theorem itoa_mem {n : Int} {c : UInt8} (h : c ∈ itoa n) : c = 45 ∨ (48 ≤ c.toNat ∧ c.toNat ≤ 57) := by
  unfold itoa at h
  split at h
  · rcases List.mem_cons.1 h with h | h
    · exact Or.inl h
    · exact Or.inr (digit_decDigits _ _ h)
  · exact Or.inr (digit_decDigits _ _ h)

theorem itoa_no_colon (n : Int) : (58 : UInt8) ∉ itoa n := by
  intro h
  rcases itoa_mem h with h | h
  · exact absurd h (by decide)
  · exact absurd h.2 (by decide)

theorem dec_no_minus (u : Nat) : (45 : UInt8) ∉ decDigits u := by
  intro h
  exact absurd (digit_decDigits _ _ h).1 (by decide)

theorem itoa_inj {a b : Int} (h : itoa a = itoa b) : a = b := by
  unfold itoa at h
  split at h <;> split at h
  · simp only [List.cons.injEq, true_and] at h
    have := decDigits_inj h
    omega
  · exact absurd (by rw [← h]; simp) (dec_no_minus b.toNat)
  · exact absurd (by rw [h]; simp) (dec_no_minus a.toNat)
  · have := decDigits_inj h
    omega

theorem vText_inj {l1 l2 : Int} {r1 r2 m1 m2 : List UInt8} (h1 : (32 : UInt8) ∉ r1) (h2 : (32 : UInt8) ∉ r2) (h : vText l1 r1 m1 = vText l2 r2 m2) : l1 = l2 ∧ r1 = r2 ∧ m1 = m2 := by
  unfold vText at h
  have h' := List.append_cancel_left h
  simp only [List.cons_append, List.nil_append] at h'
  obtain ⟨e1, e2⟩ := split_at h' (itoa_no_colon l1) (itoa_no_colon l2)
  simp only [List.cons.injEq, true_and] at e2
  obtain ⟨e3, e4⟩ := split_at e2 h1 h2
  exact ⟨itoa_inj e1, e3, e4⟩

end Plain
end Go.Proofs.Qxb6615984aFmt
