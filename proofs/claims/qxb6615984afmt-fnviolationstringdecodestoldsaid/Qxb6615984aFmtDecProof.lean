/-
  THE TOLD CARD OF 'FnViolationStringDecodes', PROVED.
-/
import Derived.Test.Qxb6615984aFmtDecIn
import Derived.Test.Qxb6615984aFmtCards
import Derived.ProofKit
import Derived.OpenShut
import Derived.Stop.JoinedAt
import Derived.Stop.Texts
import Derived.Stop.JoinedTold
import Derived.SizedLaws
import Derived.SevenToldRow
namespace Go.Proofs.Qxb6615984aFmt
namespace Dec
open Go.ChangeShapes Go.WideShapes Go.ChangeAt Go.RowKit Go.Kit
open Go.ChangeMaps (open_string shut_string)
open Go.Extern.Stop Go.Stop Go.Extern

theorem own : ownKnob Tryf.prog.godebug = none := by kernel_rfl

theorem bytes_eq_iff (a b : ByteArray) : a.data.toList = b.data.toList ↔ a = b :=
  ⟨fun e => ByteArray.ext (Array.ext' e), fun e => by rw [e]⟩

theorem text_eq_iff (l1 l2 : Int) (r1 m1 r2 m2 : ByteArray) (h1 : (32 : UInt8) ∉ r1.data.toList) (h2 : (32 : UInt8) ∉ r2.data.toList) :
    decide (vBytes l1 r1 m1 = vBytes l2 r2 m2) = (decide (l1 = l2) && decide (r1 = r2) && decide (m1 = m2)) := by
  rw [Bool.eq_iff_iff]
  simp only [Bool.and_eq_true, decide_eq_true_eq]
  constructor
  · intro e
    have e' : Plain.vText l1 r1.data.toList m1.data.toList = Plain.vText l2 r2.data.toList m2.data.toList := (bytes_eq_iff _ _).2 e
    obtain ⟨a, b, c⟩ := Plain.vText_inj h1 h2 e'
    exact ⟨⟨a, (bytes_eq_iff _ _).1 b⟩, (bytes_eq_iff _ _).1 c⟩
  · rintro ⟨⟨rfl, rfl⟩, rfl⟩; rfl

/-- The law, at every input. -/
theorem dec_all (F : Interp) (l1 l2 : Int) (r1 m1 r2 m2 : ByteArray) (w : World) (hF : F.told.answers w.tape) (w1 : (Lit.int .i64 l1).wf = true) (w2 : (Lit.int .i64 l2).wf = true) :
    Calls Tryf.prog 4 #[.int .i64 l1, .string r1, .string m1, .int .i64 l2, .string r2, .string m2] w fun e w' => e = .returned (.bool true) ∧ Below w.heap.size w w' := by
  by_cases h : r1.size + m1.size + r2.size + m2.size ≤ 1048576
  · by_cases h1 : (32 : UInt8) ∈ r1.data.toList
    · exact dec_space1 l1 l2 r1 m1 r2 m2 w h h1
    · by_cases h2 : (32 : UInt8) ∈ r2.data.toList
      · exact dec_space2 l1 l2 r1 m1 r2 m2 w h h1 h2
      · exact dec_in F l1 l2 r1 m1 r2 m2 w hF w1 w2 h h1 h2 (decide (l1 = l2)) (decide (r1 = r2)) (decide (m1 = m2)) (by rw [Bool.eq_iff_iff]; simp) (bytes_beq _ _ _ rfl) (bytes_beq _ _ _ rfl) (bytes_beq _ _ _ (text_eq_iff l1 l2 r1 m1 r2 m2 h1 h2))
  · exact dec_big l1 l2 r1 m1 r2 m2 w (by omega)

set_option maxRecDepth 100000 in
theorem lifted (os : Os) (started : os.Started) (H : Type) (enc : TypeId × Value → H) :
    ReturnsInTold none {} Tryf.checked os 4 .any Input.okWide ((OpenSpec.ofChange Rows.fnViolationStringDecodesSpec).preRow enc Tryf.prog Tryf.f4 [] false []) (fun F => ((OpenSpec.ofChange Rows.fnViolationStringDecodesSpec).at F).post enc Tryf.prog Tryf.f4 false true false false) (aloneAtReturn Tryf.prog) nothingAlways := by
  refine returnsInTold_of_row (C := Tryf.checked) (s := OpenSpec.ofChange Rows.fnViolationStringDecodesSpec) (by kernel_rfl) own started (by kernel_rfl) Tryf.func4
    (OpenSpec.witness_stopped (enc := enc) (C := Tryf.checked) false ⟨#[], #[.int .i64 1, .string ⟨#[]⟩, .string ⟨#[]⟩, .int .i64 0, .string ⟨#[]⟩, .string ⟨#[]⟩], []⟩ 8 (by kernel_rfl) (by kernel_rfl) (by kernel_rfl) (by kernel_rfl)) ?_
  intro F W base args ds gs before _ hF hval0 hW _ _ hsz _ _
  have hval : ∀ (j : Nat) t v, Tryf.f4.params[j]? = some t → args[j]? = some v → Value.okWide Tryf.prog W .any base t v := hval0
  have hW' := hW
  obtain ⟨p, q, hA0, hV, rfl, hfz, hnd⟩ := hW
  have hA : DataW.TrodAll enc Tryf.prog W 0 (fun _ => true) true Tryf.f4.params.toList args.toList ds p := hA0
  rw [Tryf.params4] at hA hval
  obtain ⟨v0, vs0, d0, ds0, p0, q0, hargs, rfl, rfl, h0, r0⟩ := trodAll_cons hA
  obtain ⟨v1, vs1, d1, ds1, p1, q1, rfl, rfl, rfl, h1, r1⟩ := trodAll_cons r0
  obtain ⟨v2, vs2, d2, ds2, p2, q2, rfl, rfl, rfl, h2, r2⟩ := trodAll_cons r1
  obtain ⟨v3, vs3, d3, ds3, p3, q3, rfl, rfl, rfl, h3, r3⟩ := trodAll_cons r2
  obtain ⟨v4, vs4, d4, ds4, p4, q4, rfl, rfl, rfl, h4, r4⟩ := trodAll_cons r3
  obtain ⟨v5, vs5, d5, ds5, p5, q5, rfl, rfl, rfl, h5, r5⟩ := trodAll_cons r4
  obtain ⟨rfl, rfl, rfl⟩ := trodAll_nil r5
  obtain rfl : args = #[v0, v1, v2, v3, v4, v5] := by cases args; simp_all
  obtain ⟨rfl, rfl⟩ := trodVars_none hV
  obtain ⟨l1, rfl, rfl, rfl, wl1⟩ := open_int Tryf.underlying3 (hval 0 3 v0 rfl rfl) h0
  obtain ⟨s1, rfl, rfl, rfl, ws1⟩ := open_string Tryf.underlying9 (hval 1 9 v1 rfl rfl) h1
  obtain ⟨m1, rfl, rfl, rfl, wm1⟩ := open_string Tryf.underlying9 (hval 2 9 v2 rfl rfl) h2
  obtain ⟨l2, rfl, rfl, rfl, wl2⟩ := open_int Tryf.underlying3 (hval 3 3 v3 rfl rfl) h3
  obtain ⟨s2, rfl, rfl, rfl, ws2⟩ := open_string Tryf.underlying9 (hval 4 9 v4 rfl rfl) h4
  obtain ⟨m2, rfl, rfl, rfl, wm2⟩ := open_string Tryf.underlying9 (hval 5 9 v5 rfl rfl) h5
  clear hA0 hval0
  refine (dec_all F l1 l2 s1 m1 s2 m2 W hF wl1 wl2).mono fun e W' ⟨he, hb⟩ => ?_
  subst he
  refine ⟨_, rfl, _, _, _, [], [], [], hW', ?_, ?_, rfl, hb.frame _, fun h => by cases h⟩
  · exact trodAll_mk1 (shut_bool Tryf.underlying4 true)
  · exact trodAll_cons_mk (shut_int Tryf.underlying3 wl1) (trodAll_cons_mk (shut_string Tryf.underlying9 ws1) (trodAll_cons_mk (shut_string Tryf.underlying9 wm1) (trodAll_cons_mk (shut_int Tryf.underlying3 wl2) (trodAll_cons_mk (shut_string Tryf.underlying9 ws2) (trodAll_cons_mk (shut_string Tryf.underlying9 wm2) trodAll_mk0)))))

theorem laidOut : laidOutB Tryf.pinned.checked.prog = true := by kernel_rfl
theorem stops : Tryf.pinned.checked.prog.stops = ["fmt.Sprintf"] := by kernel_rfl
theorem stopKnobs : Tryf.pinned.checked.prog.stopKnobs = [] := by kernel_rfl
theorem quiet (os : Os) : Stop.quiet Tryf.pinned.checked.prog os := by
  intro k hk
  rw [stopKnobs] at hk
  cases hk
end Dec

open Go.Extern.Stop Go.Stop Go.Extern in
theorem decodes_holds : Rows.FnViolationStringDecodesToldSaid :=
  Claim7.holds_of_told_any (c := Rows.fnViolationStringDecodesRow) 4 Tryf.f4 "fmt.Sprintf" [] [] _ _ _ (by kernel_rfl) rfl rfl rfl Dec.laidOut (by kernel_rfl) rfl ⟨rfl, rfl, rfl, rfl, rfl, rfl, rfl⟩ rfl rfl (by kernel_rfl) (by kernel_rfl) Tryf.func4 (by kernel_rfl)
    (of_decide_eq_true (by kernel_rfl)) (of_decide_eq_true (by kernel_rfl)) Dec.stops.symm rfl Dec.stopKnobs.symm (by kernel_rfl)
    (by kernel_rfl) (by kernel_rfl) (by kernel_rfl) (by kernel_rfl) (by kernel_rfl) (by kernel_rfl) (by kernel_rfl) (by kernel_rfl) (by kernel_rfl) rfl (by kernel_rfl) rfl rfl
    rfl rfl
    rfl (by kernel_rfl) (by kernel_rfl) (by kernel_rfl) (by decide) (by kernel_rfl)
    (OpenClaim.moreEntering_of (by kernel_rfl) (by kernel_rfl) (by kernel_rfl) (by kernel_rfl) (by kernel_rfl) (by kernel_rfl) (by kernel_rfl) (by kernel_rfl) (by kernel_rfl) (by kernel_rfl))
    ⟨_, WideRow.started_initial, Dec.quiet _⟩
    (fun os started _ H enc _ => Dec.lifted os started H enc)

end Go.Proofs.Qxb6615984aFmt
