/-
  THE GRAPH's STATE, and what one edge makes of it.
-/
import Derived.Test.Qxb6615984aEdge
import Derived.Deep.Slices
namespace Go.Proofs.Qxb6615984a
open Go.RowKit Go.Deep

/-- The graph in block gb holds the rows R, in memory from B on. -/
structure Graph (B gb ob n : Nat) (Hd : Nat → Value) (R : Nat → List Int) (w : World) : Prop where
  hgb : B ≤ gb
  ne : gb ≠ ob
  cell : w.cell? ⟨gb, 2, none⟩ = some (.slice (some ⟨ob, 0, none⟩) n n)
  fresh : Fresh B ob n Hd R w
  offg : ∀ i, i < n → (Hd i).ownBlock ≠ some gb

section
variable {B gb ob n : Nat} {Hd : Nat → Value} {R R' : Nat → List Int} {w w' : World}

theorem Graph.congr (h : Graph B gb ob n Hd R w) (e : ∀ i, i < n → R i = R' i) : Graph B gb ob n Hd R' w := ⟨h.hgb, h.ne, h.cell, h.fresh.congr e, h.offg⟩

theorem Graph.keep (h : Graph B gb ob n Hd R w) (hb : ∀ k, k < w.heap.size → w'.heap[k]? = w.heap[k]?) : Graph B gb ob n Hd R w' :=
  ⟨h.hgb, h.ne, by rw [World.cell?_of_block (w := w) (hb gb (World.block_lt_of_cell? w _ h.cell))]; exact h.cell, h.fresh.keep hb, h.offg⟩

/-- The graph as 'ZZnewPrecedence' makes it. -/
theorem Graph.new (h : Fresh B ob n Hd R w) : Graph B w.heap.size ob n Hd R (w.alloc (.cells #[.map none, .slice none 0 0, .slice (some ⟨ob, 0, none⟩) n n] 56)) :=
  ⟨Nat.le_trans h.hob (Nat.le_of_lt h.top.lt), by have := h.top.lt; omega, by simp, h.keep (fun k hk => blk_alloc_lt _ _ _ hk), fun i hi e => by have := (h.lt hi e).2; omega⟩

/-- ONE EDGE. -/
theorem Graph.edge (h : Graph B gb ob n Hd R w) (f : Nat) (d : Int) (hf : f < n) (hn : (R f).length ≤ 4194304) :
    Calls Try.prog 16 #[.pointer (some ⟨gb, 0, none⟩), .int .i64 (f : Int), .int .i64 d] w fun e w' => e = .returned (.tuple #[]) ∧ Below B w w' ∧ ∃ Hd', Graph B gb ob n Hd' (fun i => if i = f then R i ++ [d] else R i) w' := by
  have hB : B ≤ w.heap.size := Nat.le_trans h.fresh.hob (Nat.le_of_lt h.fresh.top.lt)
  refine (edge_call w gb ob n n f B (R f).length d (Hd f) _ h.cell hf (h.fresh.top.cell hf) (h.fresh.top.frozen f) (h.fresh.rows f hf) hB (by unfold maxLen; omega) (by omega) (h.offg f hf) (h.fresh.off f hf)).mono ?_
  rintro e w' ⟨rfl, g, c, w1, hown, hgrow, hat, rfl⟩
  have hlow : ∀ k, (Hd f).ownBlock = some k → B ≤ k := fun k hk => (h.fresh.lt hf hk).1
  refine ⟨rfl, ((Below.refl _ w).grown hgrow hB hlow).setCell h.fresh.hob _, fun i => if i = f then .slice (some ⟨g, 0, none⟩) ((R f).length + 1) c else Hd i, ?_⟩
  have hg2 : (Hd f).ownBlock = some g ∨ w.heap.size ≤ g := by
    rcases hat with h1 | h1
    · exact Or.inl h1
    · exact Or.inr (by omega)
  have gne : g ≠ gb := by
    have := World.block_lt_of_cell? w _ h.cell
    rcases hg2 with h1 | h1
    · intro e; exact h.offg f hf (by rw [h1, e])
    · intro e; have : gb < w.heap.size := this; omega
  have hfr := h.fresh.put (w' := w1) (g := g) (v := .slice (some ⟨g, 0, none⟩) ((R f).length + 1) c) (xs := R f ++ [d]) hf (fun k hk hne => hgrow.block k hk hne)
    (by simpa using hown) rfl hg2
  refine ⟨h.hgb, h.ne, ?_, hfr.congr (fun i _ => ?_), ?_⟩
  · rw [World.cell?_of_block (w := w1) (blk_setCell_other _ _ _ _ h.ne), hgrow.cell_far _ (World.block_lt_of_cell? w _ h.cell) (fun e => h.offg f hf e.symm)]
    exact h.cell
  · by_cases hif : i = f
    · subst hif; simp
    · simp [hif]
  · intro i hi
    by_cases hif : i = f
    · simp only [if_pos hif]; intro e; cases e; exact gne rfl
    · simp only [if_neg hif]; exact h.offg i hi

/-- The graph's rows, as a reader finds them. -/
theorem Graph.grid (h : Graph B gb ob n Hd R w) : ∃ A C Ab, Grid w (some ⟨ob, 0, none⟩) n A (fun i => (R i).length) C (fun i j => (R i).getD j 0) ob 0 Ab (fun _ => 0) := by
  have each : ∀ i, i < n → ∃ y : Option Addr × Nat × Nat, Hd i = .slice y.1 (R i).length y.2.1 ∧ (0 < (R i).length → y.1 = some ⟨y.2.2, 0, none⟩) ∧ ∀ j, j < (R i).length → w.cell? ⟨y.2.2, 0 + j, none⟩ = some (.int .i64 ((R i).getD j 0)) := by
    intro i hi
    have ho := h.fresh.rows i hi
    rcases ho.2 with ⟨hv, hz⟩ | ⟨g, cap, cur, hv, hg, hh, r⟩
    · exact ⟨(none, 0, 0), by rw [hv, hz], fun h0 => by omega, fun j hj => by omega⟩
    · refine ⟨(some ⟨g, 0, none⟩, cap, g), hv, fun _ => rfl, fun j hj => ?_⟩
      have := ho.cells (g := g) (by rw [hv]; rfl) j (.int .i64 ((R i).getD j 0)) (by simp [List.getD, List.getElem?_eq_getElem hj])
      rw [← this]
      congr 1
      unfold Addr.add
      split
      · rename_i h0; subst h0; rfl
      · simp
  obtain ⟨y, hy⟩ := choose_lt each
  exact ⟨fun i => (y i).1, fun i => (y i).2.1, fun i => (y i).2.2, fun _ => rfl, fun i hi => by rw [Nat.zero_add, h.fresh.top.cell hi, (hy i hi).1], fun i hi h0 => (hy i hi).2.1 h0, fun i hi j hj => (hy i hi).2.2 j hj⟩
end

end Go.Proofs.Qxb6615984a
