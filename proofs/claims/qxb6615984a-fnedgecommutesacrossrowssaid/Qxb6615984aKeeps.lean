/-
  'zzKeeps' (18) and 'zzSameRow' (19), where they answer true.
-/
import Derived.Test.Qxb6615984aGrid
import Derived.Deep.QuietTactic
import Derived.BigQuiet
namespace Go.Proofs.Qxb6615984a
open Go.RowKit

set_option maxHeartbeats 400000 in
theorem keeps_true (w : World) (ra oa : Option Addr) (Lr Cr Lo Co rb ro ob oo : Nat) (x : Int) (zr zo : Nat → Int)
    (hr : 0 < Lr → ra = some ⟨rb, ro, none⟩) (hrc : ∀ j, j < Lr → w.cell? ⟨rb, ro + j, none⟩ = some (.int .i64 (zr j)))
    (ho : 0 < Lo → oa = some ⟨ob, oo, none⟩) (hoc : ∀ j, j < Lo → w.cell? ⟨ob, oo + j, none⟩ = some (.int .i64 (zo j)))
    (hlen : (Lr : Int) = Lo + x) (hx0 : 0 ≤ x) (hb : Lr ≤ 4194304) (hz : ∀ j, j < Lo → zr j = zo j) :
    Calls Try.prog 18 #[.slice ra Lr Cr, .slice oa Lo Co, .int .i64 x] w fun e w' => e = .returned (.bool true) ∧ ∃ n, w' = w.drewN n := by
  have hne : ((Lr : Int) != (Lo : Int) + x) = false := by rw [← hlen]; simp
  have hle : Lo ≤ Lr := by omega
  have HR : Hid _ := hr
  have HO : Hid _ := ho
  have HZ : Hid _ := hz
  have HRC : Hid _ := hrc
  have HOC : Hid _ := hoc
  clear hr ho hz hrc hoc
  have hxb : x ≤ 4194304 := by omega
  clear hlen
  go_enter Try.func18, Try.ntmps18
  go_wp2
  go_loopw [7] (fun j wr => ∃ (k nq : Nat), k ≤ Lo ∧ j = .int .i64 k ∧ wr = w.drewN nq) (fun j _ => Lo - (intOf j).toNat)
  case atStart => exact ⟨0, 0, Nat.zero_le _, rfl, rfl⟩
  case round =>
    obtain ⟨k, nq0, hk, rfl, rfl⟩ := hrel
    by_cases hlt : k < Lo
    · have e1 := HR.out (by omega)
      have e2 := HO.out (by omega)
      subst e1
      subst e2
      have d0 := HRC.out k (by omega)
      have d1 := HOC.out k hlt
      rw [HZ.out k hlt] at d0
      have hj0 : (0 : Int) ≤ (k : Int) := by omega
      have hj1 : (k : Int) < (Lo : Int) := by omega
      have hj2 : (k : Int) < (Lr : Int) := by omega
      go_wp2_with fail
      go_quiet (fail)
      go_wp2
      exact ⟨⟨k + 1, _, by omega, by go_num, rfl⟩, by simp [intOf]; omega⟩
    · go_wp2
      go_ret
      exact ⟨rfl, nq0, rfl⟩

set_option maxHeartbeats 400000 in
theorem sameRow_true (w : World) (ra oa : Option Addr) (Lr Cr Co rb ro ob oo : Nat) (zr : Nat → Int)
    (hr : 0 < Lr → ra = some ⟨rb, ro, none⟩) (hrc : ∀ j, j < Lr → w.cell? ⟨rb, ro + j, none⟩ = some (.int .i64 (zr j)))
    (ho : 0 < Lr → oa = some ⟨ob, oo, none⟩) (hoc : ∀ j, j < Lr → w.cell? ⟨ob, oo + j, none⟩ = some (.int .i64 (zr j))) (hb : Lr ≤ 4194304) :
    Calls Try.prog 19 #[.slice ra Lr Cr, .slice oa Lr Co] w fun e w' => e = .returned (.bool true) ∧ ∃ n, w' = w.drewN n := by
  have HR : Hid _ := hr
  have HO : Hid _ := ho
  have HRC : Hid _ := hrc
  have HOC : Hid _ := hoc
  clear hr ho hrc hoc
  go_enter Try.func19, Try.ntmps19
  go_wp2
  go_loopw [5] (fun j wr => ∃ (k nq : Nat), k ≤ Lr ∧ j = .int .i64 k ∧ wr = w.drewN nq) (fun j _ => Lr - (intOf j).toNat)
  case atStart => exact ⟨0, 0, Nat.zero_le _, rfl, rfl⟩
  case round =>
    obtain ⟨k, nq0, hk, rfl, rfl⟩ := hrel
    by_cases hlt : k < Lr
    · have e1 := HR.out (by omega)
      have e2 := HO.out (by omega)
      subst e1
      subst e2
      have d0 := HRC.out k hlt
      have d1 := HOC.out k hlt
      have hj0 : (0 : Int) ≤ (k : Int) := by omega
      have hj2 : (k : Int) < (Lr : Int) := by omega
      go_wp2_with fail
      go_quiet (fail)
      go_wp2
      exact ⟨⟨k + 1, _, by omega, by go_num, rfl⟩, by simp [intOf]; omega⟩
    · go_wp2
      go_ret
      exact ⟨rfl, nq0, rfl⟩

end Go.Proofs.Qxb6615984a
