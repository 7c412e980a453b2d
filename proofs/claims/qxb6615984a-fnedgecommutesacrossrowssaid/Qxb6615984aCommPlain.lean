/-
  TWO EDGES OVER LISTS: plain laws. No Go in sight.
-/
namespace Go.Proofs.Qxb6615984a

/-- Row f gains x. -/
def add1 (R : Nat → List Int) (f : Nat) (x : Int) : Nat → List Int := fun i => if i = f then R i ++ [x] else R i

theorem add1_hit (R : Nat → List Int) (f : Nat) (x : Int) : add1 R f x f = R f ++ [x] := by simp [add1]
theorem add1_miss (R : Nat → List Int) {f i : Nat} (x : Int) (h : i ≠ f) : add1 R f x i = R i := by simp [add1, h]

theorem add1_len (R : Nat → List Int) (f : Nat) (x : Int) (i : Nat) : (add1 R f x i).length = (R i).length + if i = f then 1 else 0 := by
  unfold add1
  split <;> simp

theorem add1_getD (R : Nat → List Int) (f : Nat) (x : Int) (i j : Nat) (h : j < (R i).length) : (add1 R f x i).getD j 0 = (R i).getD j 0 := by
  unfold add1
  split
  · simp [List.getD, List.getElem?_append_left h]
  · rfl

theorem add1_comm (R : Nat → List Int) {a c : Nat} (b d : Int) (h : a ≠ c) (i : Nat) : add1 (add1 R a b) c d i = add1 (add1 R c d) a b i := by
  by_cases h1 : i = a
  · subst h1
    rw [add1_miss _ _ h, add1_hit, add1_hit, add1_miss _ _ h]
  · by_cases h2 : i = c
    · subst h2
      rw [add1_hit, add1_miss _ _ h1, add1_miss _ _ h1, add1_hit]
    · rw [add1_miss _ _ h2, add1_miss _ _ h1, add1_miss _ _ h1, add1_miss _ _ h2]

theorem getD_snoc (l : List Int) (x : Int) : (l ++ [x]).getD l.length 0 = x := by simp [List.getD]
theorem getD_snoc2 (l : List Int) (x y : Int) : (l ++ [x] ++ [y]).getD l.length 0 = x ∧ (l ++ [x] ++ [y]).getD (l.length + 1) 0 = y := by
  constructor
  · simp [List.getD]
  · simp [List.getD]

end Go.Proofs.Qxb6615984a
