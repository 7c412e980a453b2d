/-
  THE WALK of 'FnViolationStringMessageCut' (function 3).
-/
import Derived.Test.Qxb6615984aFmtWalkA
import Derived.Test.Qxb6615984aFmtTold
import Derived.Test.Qxb6615984aFmtItoa
import Derived.BigRegion
import Derived.Lib.QuietBelow
import Derived.BigQuiet
namespace Go.Proofs.Qxb6615984aFmt
open Go.RowKit Go.Extern.Stop Go.Stop Go.Extern

theorem extract_list (s : ByteArray) (i j : Nat) : (s.extract i j).data.toList = (s.data.toList.drop i).take (j - i) := by
  rw [ByteArray.data_extract]; simp [List.take_drop]

theorem cut_eq (line : Int) (rule message : ByteArray) (k : Nat) : vBytes line rule (message.extract 0 k) ++ message.extract k message.size = vBytes line rule message := by
  apply ByteArray.ext
  apply Array.ext'
  have e1 : (message.extract 0 k).data.toList = message.data.toList.take k := by rw [extract_list]; simp
  have e2 : (message.extract k message.size).data.toList = message.data.toList.drop k := by
    rw [extract_list]; apply List.take_of_length_le; rw [List.length_drop, toList_size]; exact Nat.le_refl _
  rw [ByteArray.data_append, Array.toList_append, e2]
  show (Plain.vText line rule.data.toList (message.extract 0 k).data.toList) ++ _ = Plain.vText line rule.data.toList message.data.toList
  rw [e1]
  exact Plain.vText_cut _ _ _ _

theorem whole_eq (line : Int) (rule message : ByteArray) :
    (⟨#[108, 105, 110, 101, 32]⟩ : ByteArray) ++ ⟨(Lib.itoa line).toArray⟩ ++ ⟨#[58, 32]⟩ ++ rule ++ ⟨#[32]⟩ ++ message = vBytes line rule message := by
  apply ByteArray.ext
  apply Array.ext'
  simp [vBytes, Plain.vText, ByteArray.data_append]

theorem vBytes_size (line : Int) (rule message : ByteArray) (hw : (Lit.int .i64 line).wf = true) : (vBytes line rule message).size ≤ 29 + rule.size + message.size := by
  have h3 := FmtText.itoa_length_le hw
  have h4 := Plain.vText_length line rule.data.toList message.data.toList
  rw [toList_size, toList_size] at h4
  have : (vBytes line rule message).size = (Plain.vText line rule.data.toList message.data.toList).length := by simp [vBytes, ByteArray.size]
  omega

set_option maxHeartbeats 400000 in
theorem cut_in (F : Interp) (line : Int) (k : Nat) (rule message : ByteArray) (w : World) (hF : F.told.answers w.tape) (wl : (Lit.int .i64 line).wf = true) (h : rule.size + message.size ≤ 1048576) (hk : k ≤ message.size) :
    Calls Tryf.prog 3 #[.int .i64 line, .string rule, .string message, .int .i64 (k : Int)] w fun e w' => e = .returned (.bool true) ∧ Below w.heap.size w w' := by
  have hk0 : ¬ (k : Int) < 0 := by omega
  have hk1 : ¬ (message.size : Int) < (k : Int) := by omega
  have hl := (FmtText.int_bounds64 wl)
  have hl0 : -9223372036854775808 ≤ line := by have := hl.1; omega
  have hl1 : line ≤ 9223372036854775807 := by have := hl.2.2.1 rfl; omega
  clear hl
  go_enter Tryf.func3, Tryf.ntmps3
  go_wp2_with (go_at_call 5; refine (bytesCut_yes line k rule message _ h).mono ?_; rintro e w ⟨rfl, rfl⟩)
  have hes : (message.extract 0 k).size ≤ 1048576 := by rw [ByteArray.size_extract]; omega
  refine (string_told F w.heap.size 0 line rule message _ ?_ ?_ ?_ ?_ (by omega) (by omega) wl).mono ?_
  · exact hF
  · simp
  · simp
  · simp
  rintro e w1 ⟨rfl, hb⟩
  have hbw : Below w.heap.size w w1 := (((Below.refl _ w).alloc (Nat.le_refl _) _).alloc (by simp) _).trans (hb.mono (by simp; omega))
  have hF1 : F.told.answers w1.tape := by rw [hbw.tape]; exact hF
  have c0 : w1.cell? ⟨w.heap.size + 1, 0, none⟩ = some (.string rule) := by rw [hb.cell (by simp)]; simp
  have c1 : w1.cell? ⟨w.heap.size + 1, 0 + 1, none⟩ = some (.int .i64 line) := by rw [hb.cell (by simp)]; simp
  have c2 : w1.cell? ⟨w.heap.size + 1, 0 + 2, none⟩ = some (.string (message.extract 0 k)) := by rw [hb.cell (by simp)]; simp
  have hsz : w.heap.size + 1 < w1.heap.size := by have := hb.size; simp at this; omega
  have hq1 := cut_eq line rule message k
  have hq2 := whole_eq line rule message
  have hs1 := vBytes_size line rule message wl
  have hs2 := vBytes_size line rule (message.extract 0 k) wl
  have hi := FmtText.itoa_length_le wl
  have hi' : (⟨(Lib.itoa line).toArray⟩ : ByteArray).size ≤ 21 := by simpa [ByteArray.size] using hi
  have k0 := cell_regrown c0
  have k1 := cell_regrown c1
  have k2 := cell_regrown c2
  have cS : ∀ d os, Calls Tryf.prog 6 #[.pointer (some ⟨w.heap.size + 1, 0, none⟩)] (Sort.grow (redrawn w1 d) os) fun e w'' => e = .returned (.string (vBytes line rule (message.extract 0 k))) ∧ ∃ p : Regrown, w'' = Sort.grow (redrawn w1 p.d) p.os :=
    fun d os => Calls.regrown_of (string_told F _ _ _ _ _ _ hF1 (k0 d os) (k1 d os) (k2 d os) (by omega) hes wl)
  have cI : ∀ d os, Calls Tryf.prog 7 #[.int .i64 line] (Sort.grow (redrawn w1 d) os) fun e w'' => e = .returned (.string ⟨(Lib.itoa line).toArray⟩) ∧ ∃ p : Regrown, w'' = Sort.grow (redrawn w1 p.d) p.os :=
    fun d os => Calls.regrown_of (itoa_all line _ hl0 hl1)
  clear hi
  generalize vBytes line rule (message.extract 0 k) = hd at *
  generalize vBytes line rule message = s at *
  generalize (⟨(Lib.itoa line).toArray⟩ : ByteArray) = it at *
  have CS : Hid _ := cS
  have CI : Hid _ := cI
  clear cS cI k0 k1 k2 c0 c1 c2
  go_wp2_with fail
  refine wp_region_quiet_below (by kernel_rfl) (by kernel_rfl) ?_
  repeat (go_big_quiet_step (first | exact CS.out _ _ | exact CI.out _ _))
  refine wpQuiet_nil ?_
  intro _ hw'
  obtain ⟨⟨dq, osq⟩, hw''⟩ := hw'
  subst hw''
  go_wp2
  go_ret
  exact ⟨rfl, hbw.trans ((below_regrown w1 dq osq).mono (by omega))⟩

end Go.Proofs.Qxb6615984aFmt
