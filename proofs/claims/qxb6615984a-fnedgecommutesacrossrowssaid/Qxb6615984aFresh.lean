/-
  A SLICE OF SLICES OF INTS IN MEMORY OF THE CALL's OWN: its headers lie in one block, each row in a block of its own; what a new row, and what an append to one row, makes of it. No Go text in sight.
-/
import Derived.Below
import Derived.Deep.OwnRows
import Derived.Deep.AppendLies
namespace Go.Proofs.Qxb6615984a
open Go.RowKit Go.Deep

theorem owns_of_block {w w' : World} {B : Nat} {e : TypeId} {s : Nat} {v : Value} {n : Nat} {xs : List Value} (h : w.ownsRow B e s v n xs) (hk : ∀ k, v.ownBlock = some k → w'.heap[k]? = w.heap[k]?) : w'.ownsRow B e s v n xs := by
  obtain ⟨h1, h2⟩ := h
  refine ⟨h1, ?_⟩
  rcases h2 with h2 | ⟨g, cap, cur, hv, hg, hh, r⟩
  · exact Or.inl h2
  · exact Or.inr ⟨g, cap, cur, hv, hg, by rw [hk g (by rw [hv]; rfl)]; exact hh, r⟩

/-- The headers lie in block ob; row i owns what R i says; no two rows share a block, none lies in ob. -/
structure Fresh (B ob n : Nat) (Hd : Nat → Value) (R : Nat → List Int) (w : World) : Prop where
  hob : B ≤ ob
  top : w.rowIs ob 39 n Hd
  rows : ∀ i, i < n → w.ownsRow B 3 1 (Hd i) (R i).length ((R i).map (Value.int .i64))
  off : ∀ i, i < n → (Hd i).ownBlock ≠ some ob
  apart : ∀ i j, i < n → j < n → i ≠ j → (Hd i).ownBlock = (Hd j).ownBlock → (Hd i).ownBlock = none

section
variable {B ob n : Nat} {Hd : Nat → Value} {R R' : Nat → List Int} {w w' : World}

theorem Fresh.lt (h : Fresh B ob n Hd R w) {i k : Nat} (hi : i < n) (hk : (Hd i).ownBlock = some k) : B ≤ k ∧ k < w.heap.size := (h.rows i hi).lt k hk

theorem Fresh.congr (h : Fresh B ob n Hd R w) (e : ∀ i, i < n → R i = R' i) : Fresh B ob n Hd R' w :=
  ⟨h.hob, h.top, fun i hi => by rw [← e i hi]; exact h.rows i hi, h.off, h.apart⟩

/-- Nothing that it lies in has turned. -/
theorem Fresh.keep (h : Fresh B ob n Hd R w) (hb : ∀ k, k < w.heap.size → w'.heap[k]? = w.heap[k]?) : Fresh B ob n Hd R w' :=
  ⟨h.hob, h.top.of_block (hb ob h.top.lt), fun i hi => owns_of_block (h.rows i hi) (fun k hk => hb k (h.lt hi hk).2), h.off, h.apart⟩

/-- n nil rows, as make lays them. -/
theorem Fresh.made (w : World) (n : Nat) (hB : B ≤ w.heap.size) : Fresh B w.heap.size n (fun _ => .slice none 0 0) (fun _ => []) (w.alloc (.cells (madeCells #[.slice none 0 0] n) 39)) :=
  ⟨hB, World.rowIs_made w _ n 39, fun _ _ => World.ownsRow_nil _ _ _ _, fun _ _ h => (by cases h), fun _ _ _ _ _ _ => rfl⟩

/-- ROW f IS PUT ANEW: its own block may have turned, new blocks may have come; its new header owns xs, in its old block or in a new one. -/
theorem Fresh.put (h : Fresh B ob n Hd R w) {f g : Nat} (hf : f < n) {v : Value} {xs : List Int} (hb : ∀ k, k < w.heap.size → some k ≠ (Hd f).ownBlock → w'.heap[k]? = w.heap[k]?)
    (hv : w'.ownsRow B 3 1 v xs.length (xs.map (Value.int .i64))) (hvg : v.ownBlock = some g) (hg : (Hd f).ownBlock = some g ∨ w.heap.size ≤ g) :
    Fresh B ob n (fun i => if i = f then v else Hd i) (fun i => if i = f then xs else R i) (w'.setCell ⟨ob, f, none⟩ v) := by
  have hobl := h.top.lt
  have gne : g ≠ ob := by
    rcases hg with hg | hg
    · intro e; exact h.off f hf (by rw [hg, e])
    · omega
  have hside : ∀ i, i < n → i ≠ f → (Hd i).ownBlock ≠ some g := by
    intro i hi hif e
    rcases hg with hg | hg
    · have := h.apart i f hi hf hif (by rw [e, hg])
      rw [e] at this; cases this
    · have := (h.lt hi e).2; omega
  refine ⟨h.hob, ?_, ?_, ?_, ?_⟩
  · have t1 : w'.rowIs ob 39 n Hd := h.top.of_block (hb ob hobl (fun e => h.off f hf e.symm))
    exact t1.set f v
  · intro i hi
    by_cases hif : i = f
    · subst hif
      simp only [if_true]
      exact owns_of_block hv (fun k hk => blk_setCell_other _ _ _ _ (by rw [hvg] at hk; cases hk; exact gne))
    · simp only [if_neg hif]
      refine owns_of_block (w := w) (h.rows i hi) (fun k hk => ?_)
      have hk2 := (h.lt hi hk).2
      rw [blk_setCell_other _ _ _ _ (show k ≠ ob from fun e => h.off i hi (by rw [hk, e]))]
      refine hb k hk2 (fun e => ?_)
      have := h.apart i f hi hf hif (by rw [hk, e])
      rw [hk] at this; cases this
  · intro i hi
    by_cases hif : i = f
    · simp only [if_pos hif]; rw [hvg]; intro e; cases e; exact gne rfl
    · simp only [if_neg hif]; exact h.off i hi
  · intro i j hi hj hij
    by_cases hif : i = f
    · have hjf : j ≠ f := by omega
      simp only [if_pos hif, if_neg hjf]
      intro e
      exact absurd (by rw [← e, hvg]) (hside j hj hjf)
    · by_cases hjf : j = f
      · simp only [if_neg hif, if_pos hjf]
        intro e
        exact absurd (by rw [e, hvg]) (hside i hi hif)
      · simp only [if_neg hif, if_neg hjf]
        exact h.apart i j hi hj hij

/-- A row that make laid and the loop filled. -/
theorem owns_of_rowIs {c L : Nat} {Z : Nat → Int} (h : w.rowIs c 3 L (fun i => .int .i64 (Z i))) (hB : B ≤ c) (hL : L ≤ maxLen) :
    w.ownsRow B 3 1 (.slice (some ⟨c, 0, none⟩) L L) ((List.range L).map Z).length (((List.range L).map Z).map (Value.int .i64)) := by
  obtain ⟨cur, hh, hs, hc⟩ := h
  have e : ((List.range L).map Z).length = L := by simp
  rw [e]
  refine ⟨by simp, Or.inr ⟨c, L, cur, rfl, hB, hh, Nat.le_refl _, hL, by omega, ?_⟩⟩
  apply List.ext_getElem?
  intro i
  by_cases hi : i < L
  · rw [List.getElem?_take, if_pos (by omega), Array.getElem?_toList, hc i hi]
    simp [hi]
  · rw [List.getElem?_eq_none (by simp; omega), List.getElem?_eq_none (by simp; omega)]
end

end Go.Proofs.Qxb6615984a
