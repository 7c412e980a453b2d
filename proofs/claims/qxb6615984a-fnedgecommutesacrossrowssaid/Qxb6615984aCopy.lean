/-
  'zzCopyRows' (function 15): a deep copy in memory of the call's own.
-/
import Derived.Test.Qxb6615984aGrid
import Derived.Test.Qxb6615984aFresh
import Derived.Lib.SliceRun
import Derived.Deep.QuietTactic
import Derived.BigQuiet
namespace Go.Proofs.Qxb6615984a
open Go.RowKit Go.Deep

theorem info3 : (Try.prog.info? 3).map (fun i => (i.zero, i.size, i.bytes)) = some (some (.int .i64 0), 1, 8) := by kernel_rfl
theorem info39 : (Try.prog.info? 39).map (fun i => (i.zero, i.size, i.bytes)) = some (some (.slice none 0 0), 1, 24) := by kernel_rfl

/-- Row i's numbers, as a list. -/
def oldRow (L : Nat → Nat) (Z : Nat → Nat → Int) (i : Nat) : List Int := (List.range (L i)).map (Z i)

section
variable {ao : Option Addr} {n cap : Nat} {A : Nat → Option Addr} {L C : Nat → Nat} {Z : Nat → Nat → Int} {b o : Nat} {Ab Ao : Nat → Nat}

set_option maxHeartbeats 400000 in
theorem copy_nil (w : World) : Calls Try.prog 15 #[.slice none 0 0] w fun e w' => e = .returned (.slice none 0 0) ∧ w' = w := by
  have hnil := fun w => Lib.run_eql_slice_nil (P := Try.prog) w 30 39 none 0 0 0 0 Try.underlying30
  go_enter Try.func15, Try.ntmps15
  go_wp2
  go_ret
  exact ⟨rfl, rfl⟩

set_option maxHeartbeats 400000 in
theorem copy_some (w : World) (a : Addr) (hg : Grid w (some a) n A L C Z b o Ab Ao) (hn : n ≤ 4096) (hL : ∀ i, i < n → L i ≤ 1048576) (hA : ∀ i, i < n → A i = none → L i = 0) :
    Calls Try.prog 15 #[.slice (some a) n cap] w fun e w' => e = .returned (.slice (some ⟨w.heap.size, 0, none⟩) n n) ∧ Below w.heap.size w w' ∧ ∃ Hd, Fresh w.heap.size w.heap.size n Hd (oldRow L Z) w' := by
  have hnil := fun w => Lib.run_eql_slice_nil (P := Try.prog) w 30 39 (some a) n cap 0 0 Try.underlying30
  have hmk := run_make_row' (P := Try.prog) 30 39 (.slice none 0 0) 24 Try.underlying30 info39 rfl .i64 .i64 n (by omega) (by omega)
  go_enter Try.func15, Try.ntmps15
  go_wp2
  go_loopw [4] (fun i wr => ∃ (k : Nat) (Hd : Nat → Value), k ≤ n ∧ i = .int .i64 k ∧ Below w.heap.size w wr ∧ Fresh w.heap.size w.heap.size n Hd (fun i => if i < k then oldRow L Z i else []) wr) (fun i _ => n - (intOf i).toNat)
  case atStart => exact ⟨0, _, Nat.zero_le _, rfl, (Below.refl _ w).alloc (Nat.le_refl _) _, Fresh.made w n (Nat.le_refl _)⟩
  case round =>
    rename World => wo
    obtain ⟨k, Hd, hk, rfl, hb, hfr⟩ := hrel
    by_cases hlt : k < n
    · obtain rfl : a = ⟨b, o, none⟩ := Option.some.inj (hg.addr (by omega))
      have c := (hg.below hb).top k hlt
      cases hAk : A k with
      | none =>
        have hLk : Hid (L k = 0) := hA k hlt hAk
        have hnk := fun w => Lib.run_eql_slice_nil (P := Try.prog) w 39 3 none (L k) (C k) 0 0 Try.underlying39
        rw [hAk] at c
        clear hAk
        go_wp2
        refine ⟨⟨k + 1, Hd, by omega, by go_num, hb, hfr.congr (fun i hi => ?_)⟩, by simp [intOf]; omega⟩
        by_cases hik : i = k
        · subst hik
          rw [if_neg (by omega), if_pos (by omega)]
          simp [oldRow, hLk.out]
        · by_cases h2 : i < k
          · rw [if_pos h2, if_pos (by omega)]
          · rw [if_neg h2, if_neg (by omega)]
      | some ar =>
        have hnk := fun w => Lib.run_eql_slice_nil (P := Try.prog) w 39 3 (some ar) (L k) (C k) 0 0 Try.underlying39
        have hLk := hL k hlt
        have hmk2 := run_make_row' (P := Try.prog) 39 3 (.int .i64 0) 8 Try.underlying39 info3 rfl .i64 .i64 (L k) (by omega) (by omega)
        rw [hAk] at c
        have HA : Hid (A k = some ar) := hAk
        clear hAk
        go_wp2
        go_loopw [6] (fun j wi => ∃ m : Nat, m ≤ L k ∧ j = .int .i64 m ∧ Below wo.heap.size wo wi ∧ wi.rowIs wo.heap.size 3 (L k) (fun i => if i < m then .int .i64 (Z k i) else .int .i64 0)) (fun j _ => L k - (intOf j).toNat)
        case atStart => exact ⟨0, Nat.zero_le _, rfl, (Below.refl _ wo).alloc (Nat.le_refl _) _, (World.rowIs_made wo (.int .i64 0) (L k) 3).congr (fun i _ => by simp)⟩
        case round =>
          obtain ⟨m, hm, rfl, hbi, hri⟩ := hrel
          have hbw : Below w.heap.size w wr := hb.trans (hbi.mono hb.size)
          have c2 := (hg.below hbw).top k hlt
          rw [HA.out] at c2
          have hwo : w.heap.size < wo.heap.size := hfr.top.lt
          by_cases hml : m < L k
          · obtain rfl : ar = ⟨Ab k, Ao k, none⟩ := by
              have := hg.raddr k hlt (by omega)
              rw [HA.out] at this
              exact Option.some.inj this
            have c3 := (hg.below hbw).cell k hlt m hml
            have c4 := hri.cell hml
            have c5 := hri.frozen m
            rw [if_neg (Nat.lt_irrefl m)] at c4
            go_wp2
            refine ⟨⟨m + 1, by omega, by go_num, hbi.setCell (Nat.le_refl _) _, (hri.set m _).congr (fun i _ => ?_)⟩, by simp [intOf]; omega⟩
            by_cases him : i = m
            · subst him; rw [if_pos rfl, if_pos (by omega)]
            · rw [if_neg him]
              by_cases h2 : i < m
              · rw [if_pos h2, if_pos (by omega)]
              · rw [if_neg h2, if_neg (by omega)]
          · have c4 : wr.cell? ⟨w.heap.size, k, none⟩ = some (Hd k) := by rw [hbi.cell (by simpa using hwo)]; exact hfr.top.cell hlt
            have c5 : wr.frozen? ⟨w.heap.size, k, none⟩ = false := by rw [hbi.frozen (by simpa using hwo)]; exact hfr.top.frozen k
            have hput := hfr.put (w' := wr) (g := wo.heap.size) (v := .slice (some ⟨wo.heap.size, 0, none⟩) (L k) (L k)) (xs := oldRow L Z k) hlt (fun j hj _ => hbi.block j hj)
              (owns_of_rowIs (hri.congr (fun i hi => by rw [if_pos (by omega)])) (Nat.le_of_lt hwo) (by unfold maxLen; omega)) rfl (Or.inr (Nat.le_refl _))
            have HP : Hid _ := hput
            clear hput
            go_wp2
            refine ⟨⟨k + 1, _, by omega, by go_num, hbw.setCell (Nat.le_refl _) _, HP.out.congr (fun i _ => ?_)⟩, by simp [intOf]; omega⟩
            by_cases hik : i = k
            · subst hik; rw [if_pos rfl, if_pos (by omega)]
            · rw [if_neg hik]
              by_cases h2 : i < k
              · rw [if_pos h2, if_pos (by omega)]
              · rw [if_neg h2, if_neg (by omega)]
    · go_wp2
      go_ret
      exact ⟨rfl, hb, Hd, hfr.congr (fun i hi => by rw [if_pos (by omega)])⟩

end
end Go.Proofs.Qxb6615984a
