/-
  THE GRAPH: 'ZZnewPrecedence' (14), '(*precedence).edge' (23), 'ZZprecedenceEdge' (16), 'ZZprecedenceNext' (17).
-/
import Derived.Test.Qxb6615984aCopy
import Derived.Deep.RegionLaw
namespace Go.Proofs.Qxb6615984a
open Go.RowKit Go.Deep

set_option maxHeartbeats 400000 in
theorem new_any (w : World) (oo : Option Addr) (n cap : Nat) : Calls Try.prog 14 #[.slice oo n cap] w fun e w' =>
    e = .returned (.pointer (some ⟨w.heap.size, 0, none⟩)) ∧ w' = w.alloc (.cells #[.map none, .slice none 0 0, .slice oo n cap] 56) := by
  go_enter Try.func14, Try.ntmps14
  go_wp2
  go_ret
  exact ⟨rfl, rfl⟩

set_option maxHeartbeats 400000 in
theorem next_any (w : World) (gb : Nat) (v : Value) (h : w.cell? ⟨gb, 2, none⟩ = some v) (hv : ∃ oo n cap, v = .slice oo n cap) : Calls Try.prog 17 #[.pointer (some ⟨gb, 0, none⟩)] w fun e w' =>
    e = .returned v ∧ w' = w := by
  obtain ⟨oo, n, cap, rfl⟩ := hv
  go_enter Try.func17, Try.ntmps17
  go_wp2
  go_ret
  exact ⟨rfl, rfl⟩

/-- A cell of an old block that the append did not write, behind the append. -/
theorem far_cell {w w1 : World} {o : Obj} {row : Option Nat} {a : Addr} (hgrow : (w.alloc o).drew.grownBy w1 row) (hlt : a.block < w.heap.size) (hne : row ≠ some a.block) : w1.cell? a = w.cell? a := by
  rw [hgrow.cell_far a (by show a.block < (w.alloc o).heap.size; simp; omega) (Ne.symm hne)]
  exact World.cell?_alloc_lt _ _ _ hlt
theorem far_frozen {w w1 : World} {o : Obj} {row : Option Nat} {a : Addr} (hgrow : (w.alloc o).drew.grownBy w1 row) (hlt : a.block < w.heap.size) (hne : row ≠ some a.block) : w1.frozen? a = w.frozen? a := by
  rw [hgrow.frozen_far a (by show a.block < (w.alloc o).heap.size; simp; omega) (Ne.symm hne)]
  exact World.frozen?_alloc_old _ _ _ (Nat.ne_of_lt hlt)

theorem grown_alloc {w w1 : World} {o : Obj} {row : Option Nat} (h : (w.alloc o).drew.grownBy w1 row) : w.grownBy w1 row :=
  ⟨h.os, h.tape, h.output, Nat.le_trans (by show w.heap.size ≤ (w.alloc o).heap.size; simp) h.size, fun k hk hne => (h.block k (by show k < (w.alloc o).heap.size; simp; omega) hne).trans (blk_alloc_lt w o k hk)⟩

set_option maxRecDepth 100000 in
set_option maxHeartbeats 3200000 in
theorem edge_walk (w : World) (gb ob n cap f base m : Nat) (d : Int) (v : Value) (xs : List Value)
    (hG : w.cell? ⟨gb, 2, none⟩ = some (.slice (some ⟨ob, 0, none⟩) n cap)) (hf : f < n) (hT : w.cell? ⟨ob, f, none⟩ = some v) (hFr : w.frozen? ⟨ob, f, none⟩ = false)
    (hown : w.ownsRow base 3 1 v m xs) (hbase : base ≤ w.heap.size) (hn : m + 1 ≤ maxLen) (hb : (m + 1) * 8 ≤ 140737488355328)
    (ag : v.ownBlock ≠ some gb) (ao : v.ownBlock ≠ some ob) :
    Calls Try.prog 23 #[.pointer (some ⟨gb, 0, none⟩), .int .i64 (f : Int), .int .i64 d] w fun e w' => e = .returned (.tuple #[]) ∧
      ∃ g c w1, w1.ownsRow base 3 1 (.slice (some ⟨g, 0, none⟩) (m + 1) c) (m + 1) (xs ++ [.int .i64 d]) ∧ w.grownBy w1 v.ownBlock ∧ (v.ownBlock = some g ∨ g = w.heap.size + 1) ∧
        w' = w1.setCell ⟨ob, f, none⟩ (.slice (some ⟨g, 0, none⟩) (m + 1) c) := by
  obtain ⟨i0, hi0, hz0, hz1, hz2⟩ := info_parts info3
  have lg := World.block_lt_of_cell? w _ hG
  have lo := World.block_lt_of_cell? w _ hT
  have hf0 : (0 : Int) ≤ (f : Int) := Int.natCast_nonneg _
  have hf1 : (f : Int) < (n : Int) := by omega
  obtain ⟨va, vn, vc, hv⟩ : ∃ va vn vc, v = .slice va vn vc := by
    rcases hown.2 with ⟨h, _⟩ | ⟨g, c, _, h, _⟩
    · exact ⟨_, _, _, h⟩
    · exact ⟨_, _, _, h⟩
  subst hv
  go_enter Try.func23, Try.ntmps23
  go_wp2_with fail
  go_region_law
    ((refine step_append_lies _ (by rfl) _ _ _ (by rfl) base 3 i0 _ 1 8 Try.underlying39 hi0 hz0 hz1 hz2 rfl (by omega) (.slice va vn vc) m xs (by rfl) ((hown.alloc _).drew)
        ⟨w.heap.size, 0, none⟩ 1 1 [.int .i64 d] (by rfl) (by rfl) (World.news_of_block (cs := #[.int .i64 d]) (t := 3) (fr := (0, 0)) (heap_alloc_new w _)) (by simp [Value.oneCell'])
        (by omega) hn hb (by simp; omega) (w.heap.size + 1) (by simp) ?_; intro gg c w1 hown1 hgrow hat hlt; have k0 := (far_cell hgrow lg ag).trans hG; have k1 := (far_cell hgrow lo ao).trans hT; have k2 := (far_frozen hgrow lo ao).trans hFr))
  all_goals
    go_wp2
    go_end0
    exact ⟨rfl, gg, c, w1, hown1, grown_alloc hgrow, hat, rfl⟩

/-- 'ZZprecedenceEdge' calls it. -/
theorem edge_call (w : World) (gb ob n cap f base m : Nat) (d : Int) (v : Value) (xs : List Value)
    (hG : w.cell? ⟨gb, 2, none⟩ = some (.slice (some ⟨ob, 0, none⟩) n cap)) (hf : f < n) (hT : w.cell? ⟨ob, f, none⟩ = some v) (hFr : w.frozen? ⟨ob, f, none⟩ = false)
    (hown : w.ownsRow base 3 1 v m xs) (hbase : base ≤ w.heap.size) (hn : m + 1 ≤ maxLen) (hb : (m + 1) * 8 ≤ 140737488355328)
    (ag : v.ownBlock ≠ some gb) (ao : v.ownBlock ≠ some ob) :
    Calls Try.prog 16 #[.pointer (some ⟨gb, 0, none⟩), .int .i64 (f : Int), .int .i64 d] w fun e w' => e = .returned (.tuple #[]) ∧
      ∃ g c w1, w1.ownsRow base 3 1 (.slice (some ⟨g, 0, none⟩) (m + 1) c) (m + 1) (xs ++ [.int .i64 d]) ∧ w.grownBy w1 v.ownBlock ∧ (v.ownBlock = some g ∨ g = w.heap.size + 1) ∧
        w' = w1.setCell ⟨ob, f, none⟩ (.slice (some ⟨g, 0, none⟩) (m + 1) c) := by
  go_enter Try.func16, Try.ntmps16
  go_wp2_with fail
  refine (edge_walk w gb ob n cap f base m d v xs hG hf hT hFr hown hbase hn hb ag ao).mono ?_
  rintro e w' ⟨rfl, hx⟩
  go_wp2
  go_end0
  exact ⟨rfl, hx⟩

end Go.Proofs.Qxb6615984a
