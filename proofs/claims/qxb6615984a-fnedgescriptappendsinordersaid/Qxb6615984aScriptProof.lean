/-
  'FnEdgeScriptAppendsInOrder': THE ROW, PROVED.
-/
import Derived.Test.Qxb6615984aScriptB
import Derived.Test.Qxb6615984aViews
import Derived.ProofKit
namespace Go.Proofs.Qxb6615984a
namespace Script
open Go.ChangeShapes Go.WideShapes Go.ChangeAt Go.RowKit Go.Deep

theorem own : ownKnob Try.prog.godebug = none := by kernel_rfl
theorem laidOut : laidOutB Try.prog = true := by kernel_rfl

section
variable {H : Type} {enc : TypeId × Value → H} {W : World} {held : Bool}

/-- One pair's two cells. -/
theorem pair_of {a : Addr} {i n : Nat} {cs : List Value} {y : DataW H × List MemPlace} (hc : W.cells? 0 (a.add (i * 2)) 2 = some cs) (h : DataW.trod enc Try.prog W 0 (fun _ => true) held n 43 cs = some y) :
    ∃ s d : Int, W.cell? (a.add (i * 2)) = some (.int .i64 s) ∧ W.cell? ((a.add (i * 2)).add 1) = some (.int .i64 d) := by
  unfold World.cells? at hc
  rw [if_pos (Nat.zero_le _), show List.range 2 = [0, 1] from rfl] at hc
  have e0 : (a.add (i * 2)).add 0 = a.add (i * 2) := by simp [Addr.add]
  simp only [List.mapM_cons, List.mapM_nil, e0, Option.bind_eq_bind, Option.bind_eq_some_iff, Option.pure_def, Option.some.injEq] at hc
  obtain ⟨c0, h0, r0, ⟨c1, h1, r1, rfl, rfl⟩, rfl⟩ := hc
  obtain ⟨xs, m, _, _, _, hl, hx⟩ := DataW.trod_array Try.underlying43 h
  have x0 := hx 0 (by omega)
  have x1 := hx 1 (by omega)
  simp only [cells3] at x0 x1
  rw [List.getElem?_eq_getElem (by omega)] at x0 x1
  obtain ⟨s, hs, _⟩ := DataW.trod_int Try.underlying3 x0
  obtain ⟨d, hd, _⟩ := DataW.trod_int Try.underlying3 x1
  simp at hs hd
  exact ⟨s, d, by rw [h0, hs], by rw [h1, hd]⟩

/-- '[][2]int'. -/
theorem edges_of {fuel : Nat} {eo : Option Addr} {m cap : Nat} {x : DataW H × List MemPlace} (h : DataW.trod enc Try.prog W 0 (fun _ => true) held fuel 41 [.slice eo m cap] = some x) :
    m ≤ maxLen ∧ ∃ eb ex S D, Edges W eo m eb ex S D := by
  rcases open_slice Try.underlying41 h with ⟨hcs, _⟩ | ⟨a, len, cap', k, n, Dt, Pl, hcs, _, hl, hm, hk, _, hx⟩
  · simp at hcs
    obtain ⟨_, rfl, _⟩ := hcs
    exact ⟨Nat.zero_le _, 0, 0, fun _ => 0, fun _ => 0, fun h => absurd h (Nat.lt_irrefl 0), fun k hk => absurd hk (Nat.not_lt_zero k), fun k hk => absurd hk (Nat.not_lt_zero k)⟩
  · simp at hcs
    obtain ⟨rfl, rfl, rfl⟩ := hcs
    simp only [if_true] at hk
    subst hk
    rw [cells43] at hx
    have each : ∀ i, i < k → ∃ y : Int × Int, W.cell? (a.add (i * 2)) = some (.int .i64 y.1) ∧ W.cell? ((a.add (i * 2)).add 1) = some (.int .i64 y.2) := by
      intro i hi
      obtain ⟨cs, hc, ht⟩ := hx i hi
      obtain ⟨s, d, h1, h2⟩ := pair_of hc ht
      exact ⟨(s, d), h1, h2⟩
    obtain ⟨y, hy⟩ := choose_lt each
    refine ⟨by omega, a.block, a.off, fun i => (y i).1, fun i => (y i).2, ?_, ?_, ?_⟩
    · intro h0
      have := (hy 0 (by omega)).1
      exact congrArg some (addr_at (by simpa using this))
    · intro i hi
      have e : a = ⟨a.block, a.off, none⟩ := addr_at (by simpa using (hy 0 (by omega)).1)
      rw [← add_at e]
      exact (hy i (by omega)).1
    · intro i hi
      have e : a = ⟨a.block, a.off, none⟩ := addr_at (by simpa using (hy 0 (by omega)).1)
      have := (hy i (by omega)).2
      rw [add_at e, add_plain] at this
      exact this
end

set_option maxRecDepth 100000 in
theorem lifted (os : Os) (started : os.Started) (H : Type) (enc : TypeId × Value → H) :
    ReturnsInHanded {} Try.checked os 6 .any (Rows.fnEdgeScriptAppendsInOrderSpec.pre6 enc Try.prog Try.f6 Rows.fnEdgeScriptAppendsInOrderRow.domain false) (Rows.fnEdgeScriptAppendsInOrderSpec.post enc Try.prog Try.f6 false true false false) := by
  refine returnsInHanded_of_change (C := Try.checked) own started (by kernel_rfl) Try.func6
    (ChangeSpec.witness6 (enc := enc) (C := Try.checked) false ⟨#[], #[.slice none 0 0, .slice none 0 0], []⟩ 8 (by kernel_rfl) (by kernel_rfl) (by kernel_rfl) (by kernel_rfl)) ?_
  intro W base args ds gs before hval0 hW hcnd _
  have hval : ∀ (j : Nat) t v, Try.f6.params[j]? = some t → args[j]? = some v → Value.okWide Try.prog W .any base t v := hval0
  have hW' := hW
  obtain ⟨p, q, hA0, hV, rfl, hfz, hnd⟩ := hW
  have hA : DataW.TrodAll enc Try.prog W 0 (fun _ => true) true Try.f6.params.toList args.toList ds p := hA0
  rw [Try.params6] at hA hval
  obtain ⟨v0, v1, d0, d1, p0, p1, rfl, rfl, rfl, h0, h1⟩ := trodAll_two hA
  obtain ⟨rfl, rfl⟩ := trodVars_none hV
  obtain ⟨a0, n, cap, rfl⟩ := okWide_slice Try.underlying30 (hval 0 30 v0 rfl rfl)
  obtain ⟨a1, m, ecap, rfl⟩ := okWide_slice Try.underlying41 (hval 1 41 v1 rfl rfl)
  have k0 := h0
  have k1 := h1
  have lt0 : ∀ x ∈ p0, x.block < W.heap.size := by obtain ⟨m, hm⟩ := k0; exact DataW.trod_lt m _ _ _ hm
  have lt1 : ∀ x ∈ p1, x.block < W.heap.size := by obtain ⟨m, hm⟩ := k1; exact DataW.trod_lt m _ _ _ hm
  have walk : Calls Try.prog 6 #[.slice a0 n cap, .slice a1 m ecap] W fun e w' => e = .returned (.bool true) ∧ Below W.heap.size W w' := by
    obtain ⟨f0, g0⟩ := h0
    obtain ⟨f1, g1⟩ := h1
    obtain ⟨hm, eb, ex, S, D, he⟩ := edges_of (by simpa [Value.cells] using g1)
    rcases grid_of (by simpa [Value.cells] using g0) with ⟨rfl, rfl, rfl⟩ | ⟨a, A, L, C, Z, Ab, Ao, rfl, hn, hg, hL, hAn⟩
    · by_cases hbig : 4096 < m
      · exact script_big W none (grid_nil W) (fun i hi => absurd hi (Nat.not_lt_zero i)) (Nat.zero_le _) hm (Or.inr hbig)
      · exact script_nil W he (by omega)
    · by_cases hbig : 4096 < n ∨ 4096 < m
      · exact script_big W (some a) hg hL hn hm hbig
      · exact script_main W a hg he hL hAn (by omega) (by omega)
  clear hA0 hval0
  refine walk.mono fun e W' ⟨he, bel⟩ => ?_
  subst he
  exact ⟨_, rfl, _, _, _, [], _, [], hW', trodAll_mk1 (shut_bool Try.underlying4 _), trodAll_mk2 (Below.trod laidOut (by kernel_rfl) (of_decide_eq_true (by kernel_rfl)) k0 bel lt0) (Below.trod laidOut (by kernel_rfl) (of_decide_eq_true (by kernel_rfl)) k1 bel lt1), rfl, bel.frame _, fun h => by cases h⟩

end Script

theorem script_holds : Rows.FnEdgeScriptAppendsInOrderSaid :=
  OpenClaim.holds_of_wide 6 Try.f6 rfl rfl rfl rfl rfl rfl rfl ⟨rfl, rfl, rfl, rfl, rfl⟩ rfl rfl rfl rfl rfl (by kernel_rfl) Try.func6 (by kernel_rfl)
    (of_decide_eq_true (by kernel_rfl)) (by unfold Func.isWrapper; rw [if_neg (of_decide_eq_false (by kernel_rfl))]; exact ⟨rfl, rfl⟩)
    (fun os started H enc _ => Script.lifted os started H enc)

end Go.Proofs.Qxb6615984a
