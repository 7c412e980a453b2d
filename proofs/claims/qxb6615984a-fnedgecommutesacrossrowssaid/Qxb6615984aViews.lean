/-
  FROM A ROW's READING OF AN ARGUMENT TO WHAT THE WALKS TAKE: '[][]int' and '[][2]int'.
-/
import Derived.Test.Qxb6615984aGrid
import Derived.Deep.Matrix
import Derived.OpenShut
namespace Go.Proofs.Qxb6615984a
open Go.RowKit Go.Deep Go.ChangeShapes Go.WideShapes

theorem cells39 : Try.prog.cellsOf 39 = 1 := by kernel_rfl
theorem cells3 : Try.prog.cellsOf 3 = 1 := by kernel_rfl
theorem cells43 : Try.prog.cellsOf 43 = 2 := by kernel_rfl

/-- An address at which a cell lies, written out. -/
theorem addr_at {w : World} {a : Addr} {v : Value} (h : w.cell? (a.add 0) = some v) : a = ⟨a.block, a.off, none⟩ := by
  obtain ⟨b, off, spot⟩ := a
  have hspot : spot = none := by simpa [Addr.add] using World.cell?_spot h
  subst hspot; rfl

theorem add_at {a : Addr} (h : a = ⟨a.block, a.off, none⟩) (i : Nat) : a.add i = ⟨a.block, a.off + i, none⟩ := by
  rw [h]; exact add_plain _ _ _

section
variable {H : Type} {enc : TypeId × Value → H} {W : World} {held : Bool}

/-- '[][]int'. -/
theorem grid_of {fuel : Nat} {ao : Option Addr} {n cap : Nat} {x : DataW H × List MemPlace} (h : DataW.trod enc Try.prog W 0 (fun _ => true) held fuel 30 [.slice ao n cap] = some x) :
    (ao = none ∧ n = 0 ∧ cap = 0) ∨
    ∃ (a : Addr) (A : Nat → Option Addr) (L C : Nat → Nat) (Z : Nat → Nat → Int) (Ab Ao : Nat → Nat), ao = some a ∧ n ≤ maxLen ∧ Grid W (some a) n A L C Z a.block a.off Ab Ao ∧ (∀ i, i < n → L i ≤ maxLen) ∧ ∀ i, i < n → A i = none → L i = 0 := by
  rcases open_int_rows Try.underlying30 Try.underlying39 Try.underlying3 cells39 cells3 h with ⟨hcs, _⟩ | ⟨a, len, cap', A, L, C, Z, hcs, _, hl, hm, _, hr⟩
  · simp at hcs
    exact Or.inl ⟨hcs.1, hcs.2.1, hcs.2.2⟩
  · simp at hcs
    obtain ⟨rfl, rfl, rfl⟩ := hcs
    right
    refine ⟨a, A, L, C, fun i j => (Z i).getD j 0, fun i => ((A i).getD ⟨0, 0, none⟩).block, fun i => ((A i).getD ⟨0, 0, none⟩).off, rfl, by omega, ⟨?_, ?_, ?_, ?_⟩, ?_, ?_⟩
    · intro h0
      have c0 := (hr 0 (by omega)).1
      exact congrArg some (addr_at c0)
    · intro i hi
      have e := addr_at (hr 0 (by omega)).1
      rw [← add_at e i]
      exact (hr i (by omega)).1
    · intro i hi h0
      obtain ⟨_, h1, h2, h3, _, h5, h6⟩ := hr i (by omega)
      cases hA : A i with
      | none => have := h5 hA; omega
      | some a' => exact congrArg some (addr_at ((h6 a' hA).2 0 (by omega)))
    · intro i hi j hj
      obtain ⟨_, h1, h2, h3, _, h5, h6⟩ := hr i (by omega)
      cases hA : A i with
      | none => have := h5 hA; omega
      | some a' =>
        have e := addr_at ((h6 a' hA).2 0 (by omega))
        show W.cell? ⟨a'.block, a'.off + j, none⟩ = _
        rw [← add_at e j]
        exact (h6 a' hA).2 j (by omega)
    · intro i hi
      obtain ⟨_, h1, h2, _⟩ := hr i (by omega)
      omega
    · intro i hi hA
      obtain ⟨_, h1, h2, h3, _, h5, _⟩ := hr i (by omega)
      have := h5 hA; omega
end

end Go.Proofs.Qxb6615984a
