/-
  THE WALK of 'FnViolationStringDecodes' (function 4), where it comes to its end.
-/
import Derived.Test.Qxb6615984aFmtDecLaw
namespace Go.Proofs.Qxb6615984aFmt
open Go.RowKit Go.Extern.Stop Go.Stop Go.Extern

theorem bytes_beq (a b : ByteArray) (v : Bool) (h : decide (a = b) = v) : (a.toList == b.toList) = v := by
  rw [← h, Bool.eq_iff_iff]
  simp only [beq_iff_eq, decide_eq_true_eq]
  constructor
  · intro e
    rw [ByteArray.toList_eq, ByteArray.toList_eq] at e
    exact ByteArray.ext (Array.ext' e)
  · intro e; rw [e]

set_option maxHeartbeats 1000000 in
theorem dec_in (F : Interp) (l1 l2 : Int) (r1 m1 r2 m2 : ByteArray) (w : World) (hF : F.told.answers w.tape) (w1 : (Lit.int .i64 l1).wf = true) (w2 : (Lit.int .i64 l2).wf = true)
    (h : r1.size + m1.size + r2.size + m2.size ≤ 1048576) (hn1 : (32 : UInt8) ∉ r1.data.toList) (hn2 : (32 : UInt8) ∉ r2.data.toList) (bl br bm : Bool)
    (el : (l1 == l2) = bl) (er : (r1.toList == r2.toList) = br) (em : (m1.toList == m2.toList) = bm) (ev : ((vBytes l1 r1 m1).toList == (vBytes l2 r2 m2).toList) = (bl && br && bm)) :
    Calls Tryf.prog 4 #[.int .i64 l1, .string r1, .string m1, .int .i64 l2, .string r2, .string m2] w fun e w' => e = .returned (.bool true) ∧ Below w.heap.size w w' := by
  have hb1 := (FmtText.int_bounds64 w1)
  have hl0 : -9223372036854775808 ≤ l1 := by have := hb1.1; omega
  have hl1 : l1 ≤ 9223372036854775807 := by have := hb1.2.2.1 rfl; omega
  clear hb1
  have EL : Hid _ := el
  have ER : Hid _ := er
  have EM : Hid _ := em
  have EV : Hid _ := ev
  clear el er em ev
  go_enter Tryf.func4, Tryf.ntmps4
  go_wp2_with (first | (go_at_call 8; refine (bytesDec_yes _ _ _ _ _ _ _ h).mono ?_; rintro e w ⟨rfl, rfl⟩) | (go_at_call 9; refine (add_small _ _ _ (by omega) (by omega) (by omega)).mono ?_; rintro e w ⟨rfl, rfl⟩) | (go_at_call_of 10 r1; refine (space_no r1 _ (by omega) hn1).mono ?_; rintro e w ⟨rfl, rfl⟩) | (go_at_call_of 10 r2; refine (space_no r2 _ (by omega) hn2).mono ?_; rintro e w ⟨rfl, rfl⟩))
  refine (string_told F w.heap.size 0 l1 r1 m1 _ ?_ ?_ ?_ ?_ (by omega) (by omega) w1).mono ?_
  · exact hF
  · simp
  · simp
  · simp
  rintro e wA ⟨rfl, hb⟩
  have hbA : Below w.heap.size w wA := (((Below.refl _ w).alloc (Nat.le_refl _) _).alloc (by simp) _).trans (hb.mono (by simp; omega))
  have hFA : F.told.answers wA.tape := by rw [hbA.tape]; exact hF
  have c0 : wA.cell? ⟨w.heap.size + 1, 0, none⟩ = some (.string r2) := by rw [hb.cell (by simp)]; simp
  have c1 : wA.cell? ⟨w.heap.size + 1, 0 + 1, none⟩ = some (.int .i64 l2) := by rw [hb.cell (by simp)]; simp
  have c2 : wA.cell? ⟨w.heap.size + 1, 0 + 2, none⟩ = some (.string m2) := by rw [hb.cell (by simp)]; simp
  have hsz : w.heap.size + 1 < wA.heap.size := by have := hb.size; simp at this; omega
  go_wp2_with fail
  refine (string_told F (w.heap.size + 1) 0 l2 r2 m2 _ ?_ ?_ ?_ ?_ (by omega) (by omega) w2).mono ?_
  · exact hFA
  · exact c0
  · exact c1
  · exact c2
  rintro e wB ⟨rfl, hb'⟩
  have hbB : Below w.heap.size w wB := hbA.trans (hb'.mono (by omega))
  clear c0 c1 c2 hb hb' hFA
  go_wp2_with fail
  refine (decode_text l1 r1 m1 _ hl0 hl1 (by omega) (by omega) hn1).mono ?_
  rintro e wC ⟨rfl, nC, rfl⟩
  generalize vBytes l1 r1 m1 = s1 at *
  generalize vBytes l2 r2 m2 = s2 at *
  have hbC : Below w.heap.size w (wB.drewN nC) := below_drewN hbB nC
  have el := EL.out
  have er := ER.out
  have em := EM.out
  have ev := EV.out
  clear EL ER EM EV
  cases bl <;> cases br <;> cases bm <;> simp only [Bool.and_self, Bool.and_true, Bool.and_false] at ev
  all_goals
    go_wp2_with fail
    go_ret
    exact ⟨rfl, hbC⟩

end Go.Proofs.Qxb6615984aFmt
