/-
  '(*Violation).String' with fmt's text TOLD: 'line N: RULE MESSAGE', to the byte.
-/
import Derived.Test.Qxb6615984aFmtStr
import Derived.Test.Qxb6615984aFmtPlain
import Derived.Stop.Texts
import Derived.Stop.JoinedTold
import Derived.Stop.FmtTextKit
namespace Go.Proofs.Qxb6615984aFmt
open Go.RowKit Go.Extern.Stop Go.Stop Go.Extern Go.Kit

theorem v_parse : (FmtText.parse [108, 105, 110, 101, 32, 37, 100, 58, 32, 37, 115, 32, 37, 115]).map FmtText.glue = some [.lit [108, 105, 110, 101, 32], .verb {} 100, .lit [58, 32], .verb {} 115, .lit [32], .verb {} 115] := by rfl

theorem v_text (line : Int) (rule msg : List UInt8) (hr : rule.length < 2 ^ 64) (hm : msg.length < 2 ^ 64) (hw : (Lit.int .i64 line).wf = true) :
    FmtText.text "fmt.Sprintf" (vReading line rule msg) = some (Plain.vText line rule msg) := by
  have hi := FmtText.operand_int_at (sh := shape3) (k := .i64) rfl rfl line hw
  have h1 := FmtText.operand_str_at (sh := shape9) rfl rfl rule hr
  have h2 := FmtText.operand_str_at (sh := shape9) rfl rfl msg hm
  rw [vReading, FmtText.text_sprintf_glued v_parse (FmtText.operands_cons hi (FmtText.operands_cons h1 (FmtText.operands_cons h2 FmtText.operands_nil)))]
  simp [FmtText.render, FmtText.printArg_d _ _ hw, FmtText.printArg_s_str, Plain.vText]

/-- The text as a Go string. -/
def vBytes (line : Int) (rule msg : ByteArray) : ByteArray := ⟨(Plain.vText line rule.data.toList msg.data.toList).toArray⟩

theorem toList_size (s : ByteArray) : s.data.toList.length = s.size := Array.length_toList

theorem text_told (F : Interp) (line : Int) (rule msg : ByteArray) (hr : rule.size ≤ 1048576) (hm : msg.size ≤ 1048576) (hw : (Lit.int .i64 line).wf = true) :
    FmtStop.textOf (F.told "fmt.Sprintf" (vReading line rule.data.toList msg.data.toList) 0) = vBytes line rule msg := by
  have h1 := toList_size rule
  have h2 := toList_size msg
  have h3 := FmtText.itoa_length_le hw
  have h4 := Plain.vText_length line rule.data.toList msg.data.toList
  have ht := told_string F (v_text line rule.data.toList msg.data.toList (by omega) (by omega) hw) (by omega)
  rw [← textOf_list] at ht
  unfold vBytes
  rw [← ht]

theorem string_told (F : Interp) (b o : Nat) (line : Int) (rule msg : ByteArray) (w : World) (hF : F.told.answers w.tape)
    (h0 : w.cell? ⟨b, o, none⟩ = some (.string rule)) (h1 : w.cell? ⟨b, o + 1, none⟩ = some (.int .i64 line)) (h2 : w.cell? ⟨b, o + 2, none⟩ = some (.string msg))
    (hr : rule.size ≤ 1048576) (hm : msg.size ≤ 1048576) (hw : (Lit.int .i64 line).wf = true) :
    Calls Tryf.prog 6 #[.pointer (some ⟨b, o, none⟩)] w fun e w' => e = .returned (.string (vBytes line rule msg)) ∧ Below w.heap.size w w' := by
  have ht := text_told F line rule msg hr hm hw
  refine (string_all F.told b o line rule msg w hF h0 h1 h2).mono fun e w' ⟨he, hb⟩ => ?_
  rw [ht] at he
  exact ⟨he, hb⟩

end Go.Proofs.Qxb6615984aFmt
