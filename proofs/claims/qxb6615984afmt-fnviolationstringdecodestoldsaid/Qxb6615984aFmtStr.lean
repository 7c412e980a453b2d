/-
  '(*Violation).String' (function 6): WHAT fmt IS ASKED; the walk, for every F.
-/
import Derived.Test.Qxb6615984aFmtRows
import Derived.WalkKit
import Derived.WalkSpells
import Derived.WalkLawsBesides
import Derived.Stop.CallBack
import Derived.Stop.IfaceNil
import Derived.BigRegion
import GoSem.ClaimData
namespace Go.Proofs.Qxb6615984aFmt
open Go.RowKit Go.Extern.Stop Go.Stop Go.Extern

theorem call12 (args : Array Value) (w : World) : (callFunc 12 args).run Tryf.prog w = ((FmtStop.sprintf #[9, 51] #[9] args).run Tryf.prog w).andThen fun v w' => .ok (.value v) w' :=
  run_callFunc_extern Tryf.func12 (by kernel_rfl) (by kernel_rfl) (by kernel_rfl) (by kernel_rfl) args w
theorem guardFmt (name : String) (w : World) : (FmtStop.guard name).run Tryf.prog w = .ok () w := by kernel_rfl
theorem fmt0 : FmtStop.printed? ⟨#[108, 105, 110, 101, 32, 37, 100, 58, 32, 37, 115, 32, 37, 115]⟩ 3 = some [(0, 100, false), (1, 115, false), (2, 115, false)] := by kernel_rfl
theorem fmt0r (w : World) : (FmtDoors.printed ⟨#[108, 105, 110, 101, 32, 37, 100, 58, 32, 37, 115, 32, 37, 115]⟩ 3).run Tryf.prog w = .ok [(0, 100, false), (1, 115, false), (2, 115, false)] w := by kernel_rfl
def shape3 : List UInt8 := [5, 3, 0, 0, 0, 0, 0, 0, 0, 105, 110, 116]
theorem op3_100 (name : String) (x : Int) (w : World) : (FmtStop.operand name false 100 false (.iface 3 (.int .i64 x))).run Tryf.prog w = .ok (shape3, Go.Extern.Stop.digits 8 (x % 2 ^ 64).toNat) w := by kernel_rfl
def shape9 : List UInt8 := [12, 6, 0, 0, 0, 0, 0, 0, 0, 115, 116, 114, 105, 110, 103]
theorem op9_115 (name : String) (x : ByteArray) (w : World) : (FmtStop.operand name false 115 false (.iface 9 (.string x))).run Tryf.prog w = .ok (shape9, FmtStop.pack x.data.toList) w := by kernel_rfl
attribute [local go_sem] call12 guardFmt fmt0 fmt0r op3_100 op9_115

/-- WHAT fmt IS ASKED. -/
def vReading (line : Int) (rule msg : List UInt8) : List (List UInt8) :=
  [[108, 105, 110, 101, 32, 37, 100, 58, 32, 37, 115, 32, 37, 115], shape3, digits 8 (line % 18446744073709551616).toNat, shape9, FmtStop.pack rule, shape9, FmtStop.pack msg]

set_option maxHeartbeats 400000 in
theorem string_all (F : Interp) (b o : Nat) (line : Int) (rule msg : ByteArray) (w : World) (hF : F.answers w.tape)
    (h0 : w.cell? ⟨b, o, none⟩ = some (.string rule)) (h1 : w.cell? ⟨b, o + 1, none⟩ = some (.int .i64 line)) (h2 : w.cell? ⟨b, o + 2, none⟩ = some (.string msg)) :
    Calls Tryf.prog 6 #[.pointer (some ⟨b, o, none⟩)] w fun e w' => e = .returned (.string (FmtStop.textOf (F "fmt.Sprintf" (vReading line rule.data.toList msg.data.toList) 0))) ∧ Below w.heap.size w w' := by
  have hF' := answers_open hF
  go_enter Tryf.func6, Tryf.ntmps6
  go_wp2
  go_region
  go_wp2
  go_ret
  exact ⟨rfl, (((Below.refl _ w).alloc (Nat.le_refl _) _).drew).drew⟩

end Go.Proofs.Qxb6615984aFmt
