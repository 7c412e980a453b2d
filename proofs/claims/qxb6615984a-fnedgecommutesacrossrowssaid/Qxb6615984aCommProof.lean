/-
  'FnEdgeCommutesAcrossRows': THE ROW, PROVED.
-/
import Derived.Test.Qxb6615984aComm
import Derived.Test.Qxb6615984aCommB
import Derived.Test.Qxb6615984aViews
import Derived.ProofKit
namespace Go.Proofs.Qxb6615984a
namespace Comm
open Go.ChangeShapes Go.WideShapes Go.ChangeAt Go.RowKit Go.Deep

theorem own : ownKnob Try.prog.godebug = none := by kernel_rfl
theorem laidOut : laidOutB Try.prog = true := by kernel_rfl

theorem grid_nil (w : World) : Grid w none 0 (fun _ => none) (fun _ => 0) (fun _ => 0) (fun _ _ => 0) 0 0 (fun _ => 0) (fun _ => 0) :=
  ⟨fun h => absurd h (Nat.lt_irrefl 0), fun i hi => absurd hi (Nat.not_lt_zero i), fun i hi => absurd hi (Nat.not_lt_zero i), fun i hi => absurd hi (Nat.not_lt_zero i)⟩

set_option maxRecDepth 100000 in
theorem lifted (os : Os) (started : os.Started) (H : Type) (enc : TypeId × Value → H) :
    ReturnsInHanded {} Try.checked os 5 .any (Rows.fnEdgeCommutesAcrossRowsSpec.pre6 enc Try.prog Try.f5 Rows.fnEdgeCommutesAcrossRowsRow.domain false) (Rows.fnEdgeCommutesAcrossRowsSpec.post enc Try.prog Try.f5 false true false false) := by
  refine returnsInHanded_of_change (C := Try.checked) own started (by kernel_rfl) Try.func5
    (ChangeSpec.witness6 (enc := enc) (C := Try.checked) false ⟨#[], #[.slice none 0 0, .int .i64 0, .int .i64 0, .int .i64 0, .int .i64 0], []⟩ 8 (by kernel_rfl) (by kernel_rfl) (by kernel_rfl) (by kernel_rfl)) ?_
  intro W base args ds gs before hval0 hW hcnd _
  have hval : ∀ (j : Nat) t v, Try.f5.params[j]? = some t → args[j]? = some v → Value.okWide Try.prog W .any base t v := hval0
  have hW' := hW
  obtain ⟨p, q, hA0, hV, rfl, hfz, hnd⟩ := hW
  have hA : DataW.TrodAll enc Try.prog W 0 (fun _ => true) true Try.f5.params.toList args.toList ds p := hA0
  rw [Try.params5] at hA hval
  obtain ⟨v0, vs0, d0, ds0, p0, q0, hargs, rfl, rfl, h0, r0⟩ := trodAll_cons hA
  obtain ⟨v1, vs1, d1, ds1, p1, q1, rfl, rfl, rfl, h1, r1⟩ := trodAll_cons r0
  obtain ⟨v2, vs2, d2, ds2, p2, q2, rfl, rfl, rfl, h2, r2⟩ := trodAll_cons r1
  obtain ⟨v3, vs3, d3, ds3, p3, q3, rfl, rfl, rfl, h3, r3⟩ := trodAll_cons r2
  obtain ⟨v4, vs4, d4, ds4, p4, q4, rfl, rfl, rfl, h4, r4⟩ := trodAll_cons r3
  obtain ⟨rfl, rfl, rfl⟩ := trodAll_nil r4
  obtain rfl : args = #[v0, v1, v2, v3, v4] := by cases args; simp_all
  obtain ⟨rfl, rfl⟩ := trodVars_none hV
  obtain ⟨a0, n, cap, rfl⟩ := okWide_slice Try.underlying30 (hval 0 30 v0 rfl rfl)
  obtain ⟨a, rfl, rfl, rfl, wa⟩ := open_int Try.underlying3 (hval 1 3 v1 rfl rfl) h1
  obtain ⟨b, rfl, rfl, rfl, wb⟩ := open_int Try.underlying3 (hval 2 3 v2 rfl rfl) h2
  obtain ⟨c, rfl, rfl, rfl, wc⟩ := open_int Try.underlying3 (hval 3 3 v3 rfl rfl) h3
  obtain ⟨d, rfl, rfl, rfl, wd⟩ := open_int Try.underlying3 (hval 4 3 v4 rfl rfl) h4
  have k0 := h0
  have lt0 : ∀ x ∈ p0, x.block < W.heap.size := by obtain ⟨m, hm⟩ := k0; exact DataW.trod_lt m _ _ _ hm
  have walk : Calls Try.prog 5 #[.slice a0 n cap, .int .i64 a, .int .i64 b, .int .i64 c, .int .i64 d] W fun e w' => e = .returned (.bool true) ∧ Below W.heap.size W w' := by
    obtain ⟨f0, g0⟩ := h0
    rcases grid_of (by simpa [Value.cells] using g0) with ⟨rfl, rfl, rfl⟩ | ⟨x, A, L, C, Z, Ab, Ao, rfl, hn, hg, hL, hAn⟩
    · exact comm_out W none (grid_nil W) (fun i hi => absurd hi (Nat.not_lt_zero i)) (Nat.zero_le _) a b c d (by omega)
    · by_cases hbig : 4096 < n
      · exact comm_big W (some x) hg hL hn a b c d hbig
      · by_cases hout : a < 0 ∨ (n : Int) ≤ a ∨ c < 0 ∨ (n : Int) ≤ c
        · exact comm_out W (some x) hg hL (by omega) a b c d hout
        · obtain ⟨a', rfl⟩ := Int.eq_ofNat_of_zero_le (a := a) (by omega)
          obtain ⟨c', rfl⟩ := Int.eq_ofNat_of_zero_le (a := c) (by omega)
          have e := hg.addr (by omega)
          have e' : x = ⟨x.block, x.off, none⟩ := Option.some.inj e
          rw [e] at hg
          rw [e']
          exact comm_main W hg hL hAn (by omega) a' c' b d (by omega) (by omega)
  clear hA0 hval0
  refine walk.mono fun e W' ⟨he, bel⟩ => ?_
  subst he
  exact ⟨_, rfl, _, _, _, [], _, [], hW', trodAll_mk1 (shut_bool Try.underlying4 _), trodAll_cons_mk (Below.trod laidOut (by kernel_rfl) (of_decide_eq_true (by kernel_rfl)) k0 bel lt0) (trodAll_cons_mk (shut_int Try.underlying3 wa) (trodAll_cons_mk (shut_int Try.underlying3 wb) (trodAll_cons_mk (shut_int Try.underlying3 wc) (trodAll_cons_mk (shut_int Try.underlying3 wd) trodAll_mk0)))), rfl, bel.frame _, fun h => by cases h⟩

end Comm

theorem commutes_holds : Rows.FnEdgeCommutesAcrossRowsSaid :=
  OpenClaim.holds_of_wide 5 Try.f5 rfl rfl rfl rfl rfl rfl rfl ⟨rfl, rfl, rfl, rfl, rfl⟩ rfl rfl rfl rfl rfl (by kernel_rfl) Try.func5 (by kernel_rfl)
    (of_decide_eq_true (by kernel_rfl)) (by unfold Func.isWrapper; rw [if_neg (of_decide_eq_false (by kernel_rfl))]; exact ⟨rfl, rfl⟩)
    (fun os started H enc _ => Comm.lifted os started H enc)

end Go.Proofs.Qxb6615984a
