/-
  THE WALK of 'FnEdgeCommutesAcrossRows' (function 5), where both sources are nodes.
-/
import Derived.Test.Qxb6615984aGraph
import Derived.Test.Qxb6615984aKeeps
import Derived.Test.Qxb6615984aCommPlain
import Derived.Deep.RegionWith
namespace Go.Proofs.Qxb6615984a
open Go.RowKit Go.Deep

theorem oldRow_len (L : Nat → Nat) (Z : Nat → Nat → Int) (i : Nat) : (oldRow L Z i).length = L i := by simp [oldRow]
theorem oldRow_getD (L : Nat → Nat) (Z : Nat → Nat → Int) (i j : Nat) (h : j < L i) : (oldRow L Z i).getD j 0 = Z i j := by simp [oldRow, List.getD, h]

/-- A callee that draws alone, met in a region that draws, behind draws already made. -/
theorem quiet_at {P : Program} {f : FuncId} {args : Array Value} {w : World} {q x : Nat} {v : Value} (h : Calls P f args (w.drewN (q + x)) fun e w' => e = .returned v ∧ ∃ n, w' = (w.drewN (q + x)).drewN n) :
    Calls P f args (w.drewN (q + x)) fun e w'' => e = .returned v ∧ ∃ n, w'' = w.drewN (q + n) :=
  h.mono fun _ _ ⟨he, n, hn⟩ => ⟨he, x + n, by rw [hn, World.drewN_drewN, Nat.add_assoc]⟩

/-- One row of a graph that is not empty. -/
theorem row_at {w : World} {n ob : Nat} {A : Nat → Option Addr} {R : Nat → List Int} {C Ab : Nat → Nat} (hG : Grid w (some ⟨ob, 0, none⟩) n A (fun i => (R i).length) C (fun i j => (R i).getD j 0) ob 0 Ab (fun _ => 0))
    {i m : Nat} (hi : i < n) {l : List Int} (hl : R i = l) (hm : l.length = m) (h0 : 0 < m) : w.cell? ⟨ob, i, none⟩ = some (.slice (some ⟨Ab i, 0, none⟩) m (C i)) ∧ ∀ j x, j < m → l.getD j 0 = x → w.cell? ⟨Ab i, j, none⟩ = some (.int .i64 x) := by
  subst hl hm
  refine ⟨?_, fun j x hj hx => ?_⟩
  · have c := hG.top i hi
    rw [Nat.zero_add, hG.raddr i hi h0] at c
    exact c
  · have c := hG.cell i hi j hj
    rw [Nat.zero_add] at c
    rw [c, hx]

theorem old_snoc (L : Nat → Nat) (Z : Nat → Nat → Int) (i : Nat) (x : Int) : (oldRow L Z i ++ [x]).length = L i + 1 ∧ (oldRow L Z i ++ [x]).getD (L i) 0 = x := by
  have e := oldRow_len L Z i
  have h := getD_snoc (oldRow L Z i) x
  rw [e] at h
  exact ⟨by simp [e], h⟩
theorem old_snoc2 (L : Nat → Nat) (Z : Nat → Nat → Int) (i : Nat) (x y : Int) : (oldRow L Z i ++ [x] ++ [y]).length = L i + 2 ∧ (oldRow L Z i ++ [x] ++ [y]).getD (L i) 0 = x ∧ (oldRow L Z i ++ [x] ++ [y]).getD (L i + 1) 0 = y := by
  have e := oldRow_len L Z i
  have h := getD_snoc2 (oldRow L Z i) x y
  rw [e] at h
  exact ⟨by simp [e], h⟩

section
variable {n cap : Nat} {A : Nat → Option Addr} {L C : Nat → Nat} {Z : Nat → Nat → Int} {bb o : Nat} {Ab Ao : Nat → Nat}

set_option maxRecDepth 100000 in
set_option maxHeartbeats 1000000 in
theorem comm_main (w : World) (hg : Grid w (some ⟨bb, o, none⟩) n A L C Z bb o Ab Ao) (hL : ∀ i, i < n → L i ≤ maxLen) (hA : ∀ i, i < n → A i = none → L i = 0) (hn : n ≤ 4096) (a c : Nat) (b d : Int) (ha : a < n) (hc : c < n) :
    Calls Try.prog 5 #[.slice (some ⟨bb, o, none⟩) n cap, .int .i64 (a : Int), .int .i64 b, .int .i64 (c : Int), .int .i64 d] w fun e w' => e = .returned (.bool true) ∧ Below w.heap.size w w' := by
  have g1 : decide (4096 < (n : Int)) = false := by simp; omega
  have g2 : decide ((a : Int) < 0) = false := by simp
  have g3 : decide ((n : Int) ≤ (a : Int)) = false := by simp; omega
  have g4 : decide ((c : Int) < 0) = false := by simp
  have g5 : decide ((n : Int) ≤ (c : Int)) = false := by simp; omega
  go_enter Try.func5, Try.ntmps5
  go_wp2_with fail
  refine (bytesC_any (cap := cap) w hg hL (by unfold maxLen; omega) a b c d).mono ?_
  rintro e w ⟨⟨r, rfl⟩, rfl⟩
  cases r with
  | false =>
    go_wp2
    go_ret
    exact ⟨rfl, Below.refl _ _⟩
  | true =>
    go_wp2_with fail
    refine (rowsBytes_any (cap := cap) w hg hL (by unfold maxLen; omega) 0 (by omega) (by omega)).mono ?_
    rintro e w ⟨r, rfl, rfl, hfit⟩
    by_cases hr : 1048576 < r
    · go_wp2_with fail
      go_ret
      exact ⟨rfl, Below.refl _ _⟩
    · obtain ⟨_, hL2⟩ := hfit (by omega)
      have hr' : decide (1048576 < r) = false := by simpa using hr
      have hla : (oldRow L Z a).length ≤ 1048576 := by rw [oldRow_len]; exact hL2 a ha
      have hlc : (oldRow L Z c).length ≤ 1048576 := by rw [oldRow_len]; exact hL2 c hc
      have hlc1 : (add1 (oldRow L Z) a b c).length ≤ 1048577 := by rw [add1_len]; split <;> omega
      have hla1 : (add1 (oldRow L Z) c d a).length ≤ 1048577 := by rw [add1_len]; split <;> omega
      -- THE FIRST GRAPH
      go_wp2_with fail
      refine (copy_some (cap := cap) w ⟨bb, o, none⟩ hg hn hL2 hA).mono ?_
      rintro e w2 ⟨rfl, hb2, Hd, hfr⟩
      go_wp2_with fail
      refine (new_any w2 (some ⟨w.heap.size, 0, none⟩) n n).mono ?_
      rintro e w3 ⟨rfl, hw3⟩
      have hgr := Graph.new hfr
      have hb3 : Below w.heap.size w w3 := by rw [hw3]; exact hb2.alloc hb2.size _
      rw [← hw3] at hgr
      generalize w2.heap.size = g1b at *
      clear hw3 hfr hb2
      go_wp2_with fail
      refine (hgr.edge a b ha (by omega)).mono ?_
      rintro e w4 ⟨rfl, hb4, Hd4, hgr4⟩
      go_wp2_with fail
      refine (hgr4.edge c d hc (by show (add1 (oldRow L Z) a b c).length ≤ 4194304; omega)).mono ?_
      rintro e w5 ⟨rfl, hb5, Hd5, hgr5⟩
      have hR1 : Graph w.heap.size g1b w.heap.size n Hd5 (add1 (add1 (oldRow L Z) a b) c d) w5 := hgr5
      have hbw5 : Below w.heap.size w w5 := (hb3.trans hb4).trans hb5
      clear hgr hgr4 hgr5 hb3 hb4 hb5
      -- THE SECOND
      have hg5 := hg.below hbw5
      go_wp2_with fail
      refine (copy_some (cap := cap) w5 ⟨bb, o, none⟩ hg5 hn hL2 hA).mono ?_
      rintro e w6 ⟨rfl, hb6, Hd6, hfr⟩
      go_wp2_with fail
      refine (new_any w6 (some ⟨w5.heap.size, 0, none⟩) n n).mono ?_
      rintro e w7 ⟨rfl, hw7⟩
      have hgr := Graph.new hfr
      have hb7 : Below w5.heap.size w5 w7 := by rw [hw7]; exact hb6.alloc hb6.size _
      rw [← hw7] at hgr
      generalize w6.heap.size = g2b at *
      clear hw7 hfr hb6
      go_wp2_with fail
      refine (hgr.edge c d hc (by omega)).mono ?_
      rintro e w8 ⟨rfl, hb8, Hd8, hgr8⟩
      go_wp2_with fail
      refine (hgr8.edge a b ha (by show (add1 (oldRow L Z) c d a).length ≤ 4194304; omega)).mono ?_
      rintro e w9 ⟨rfl, hb9, Hd9, hgr9⟩
      have hR2 : Graph w5.heap.size g2b w5.heap.size n Hd9 (add1 (add1 (oldRow L Z) c d) a b) w9 := hgr9
      have hbw9 : Below w5.heap.size w5 w9 := (hb7.trans hb8).trans hb9
      have hR1' := hR1.keep (fun k hk => hbw9.block k hk)
      have hb : Below w.heap.size w w9 := hbw5.trans (hbw9.mono hbw5.size)
      have hg9 := hg.below hb
      clear hgr hgr8 hgr9 hb7 hb8 hb9 hR1 hg5 hbw5 hla hlc hlc1 hla1
      obtain ⟨A1, C1, Ab1, hG1⟩ := hR1'.grid
      obtain ⟨A2, C2, Ab2, hG2⟩ := hR2.grid
      have hc1 := hR1'.cell
      have hc2 := hR2.cell
      clear hR1' hR2 hg
      generalize w5.heap.size = o2 at *
      clear hbw9
      -- THE TWO RESULTS
      go_wp2_with fail
      refine (next_any w9 g1b _ hc1 ⟨_, _, _, rfl⟩).mono ?_
      rintro e w10 ⟨rfl, rfl⟩
      go_wp2_with fail
      refine (next_any w10 g2b _ hc2 ⟨_, _, _, rfl⟩).mono ?_
      rintro e w9 ⟨rfl, rfl⟩
      clear hc1 hc2
      have hnn : ((n : Int) != (n : Int)) = false := by simp
      go_wp2_with fail
      go_loopw [15] (fun i wr => ∃ (k nq : Nat), k ≤ n ∧ i = .int .i64 k ∧ wr = w9.drewN nq) (fun i _ => n - (intOf i).toNat)
      case atStart => exact ⟨0, 0, Nat.zero_le _, rfl, rfl⟩
      case round =>
        obtain ⟨k, nq, hk, rfl, rfl⟩ := hrel
        by_cases hlt : k < n
        · have c0 := hg9.top k hlt
          have c1 := hG1.top k hlt
          have c2 := hG2.top k hlt
          rw [Nat.zero_add] at c1 c2
          have hLk := hL2 k hlt
          have hk0 : (0 : Int) ≤ (k : Int) := by omega
          have hk1 : (k : Int) < (n : Int) := by omega
          have hl1 : (add1 (add1 (oldRow L Z) a b) c d k).length = L k + (if k = a then 1 else 0) + (if k = c then 1 else 0) := by rw [add1_len, add1_len, oldRow_len]
          have hl2 : (add1 (add1 (oldRow L Z) c d) a b k).length = L k + (if k = c then 1 else 0) + (if k = a then 1 else 0) := by rw [add1_len, add1_len, oldRow_len]
          have hm1 : (add1 (add1 (oldRow L Z) a b) c d k).length ≤ 1048578 := by rw [hl1]; split <;> split <;> omega
          have hm2 : (add1 (add1 (oldRow L Z) c d) a b k).length ≤ 1048578 := by rw [hl2]; split <;> split <;> omega
          have hz1 : ∀ j, j < L k → (add1 (add1 (oldRow L Z) a b) c d k).getD j 0 = Z k j := fun j hj => by
            rw [add1_getD _ _ _ _ _ (by rw [add1_len, oldRow_len]; omega), add1_getD _ _ _ _ _ (by rw [oldRow_len]; exact hj), oldRow_getD _ _ _ _ hj]
          have hz2 : ∀ j, j < L k → (add1 (add1 (oldRow L Z) c d) a b k).getD j 0 = Z k j := fun j hj => by
            rw [add1_getD _ _ _ _ _ (by rw [add1_len, oldRow_len]; omega), add1_getD _ _ _ _ _ (by rw [oldRow_len]; exact hj), oldRow_getD _ _ _ _ hj]
          have KE1 : Hid (∀ x : Int, (((add1 (add1 (oldRow L Z) a b) c d k).length : Nat) : Int) = (L k : Int) + x → 0 ≤ x → ∀ wx : World, wx.heap = w9.heap →
              Calls Try.prog 18 #[.slice (A1 k) (add1 (add1 (oldRow L Z) a b) c d k).length (C1 k), .slice (A k) (L k) (C k), .int .i64 x] wx fun e w' => e = .returned (.bool true) ∧ ∃ n, w' = wx.drewN n) :=
            fun x hx hx0 wx hh => keeps_true wx _ _ _ _ _ _ _ _ _ _ x _ _ (hG1.raddr k hlt) (fun j hj => by rw [World.cell?_of_block (w := w9) (by rw [hh])]; exact hG1.cell k hlt j hj) (hg9.raddr k hlt) (fun j hj => by rw [World.cell?_of_block (w := w9) (by rw [hh])]; exact hg9.cell k hlt j hj) hx hx0 (by omega) hz1
          have KE2 : Hid (∀ x : Int, (((add1 (add1 (oldRow L Z) c d) a b k).length : Nat) : Int) = (L k : Int) + x → 0 ≤ x → ∀ wx : World, wx.heap = w9.heap →
              Calls Try.prog 18 #[.slice (A2 k) (add1 (add1 (oldRow L Z) c d) a b k).length (C2 k), .slice (A k) (L k) (C k), .int .i64 x] wx fun e w' => e = .returned (.bool true) ∧ ∃ n, w' = wx.drewN n) :=
            fun x hx hx0 wx hh => keeps_true wx _ _ _ _ _ _ _ _ _ _ x _ _ (hG2.raddr k hlt) (fun j hj => by rw [World.cell?_of_block (w := w9) (by rw [hh])]; exact hG2.cell k hlt j hj) (hg9.raddr k hlt) (fun j hj => by rw [World.cell?_of_block (w := w9) (by rw [hh])]; exact hg9.cell k hlt j hj) hx hx0 (by omega) hz2
          clear hz1 hz2
          by_cases hac : a = c
          · have hne : ((a : Int) != (c : Int)) = false := by rw [bne_eq_false_iff_eq]; omega
            generalize (add1 (add1 (oldRow L Z) a b) c d k).length = l1 at c1 hl1 hm1 KE1
            generalize (add1 (add1 (oldRow L Z) c d) a b k).length = l2 at c2 hl2 hm2 KE2
            by_cases hka : k = a
            · have hkc : k = c := by omega
              clear hac
              have eka : ((k : Int) == (a : Int)) = true := by rw [beq_iff_eq]; omega
              have ekc : ((k : Int) == (c : Int)) = true := by rw [beq_iff_eq]; omega
              have H1 : Hid (l1 = L k + 2) := (hl1.trans (by rw [if_pos hka, if_pos hkc])).trans (by omega)
              have H2 : Hid (l2 = L k + 2) := (hl2.trans (by rw [if_pos hkc, if_pos hka])).trans (by omega)
              clear hka hkc hl1 hl2
              go_wp2_with fail
              go_quiet (first | (go_at_call_of 18 (A1 k); exact quiet_at (KE1.out 2 (by have := H1.out; omega) (by omega) _ rfl)) | (go_at_call_of 18 (A2 k); exact quiet_at (KE2.out 2 (by have := H2.out; omega) (by omega) _ rfl)))
              go_wp2_with fail
              go_quiet (fail)
              go_wp2_with fail
              exact ⟨⟨k + 1, _, by omega, by go_num, rfl⟩, by simp [intOf]; omega⟩
            · have hkc : k ≠ c := by omega
              clear hac
              have eka : ((k : Int) == (a : Int)) = false := by rw [beq_eq_false_iff_ne]; omega
              have ekc : ((k : Int) == (c : Int)) = false := by rw [beq_eq_false_iff_ne]; omega
              have H1 : Hid (l1 = L k + 0) := (hl1.trans (by rw [if_neg hka, if_neg hkc])).trans (by omega)
              have H2 : Hid (l2 = L k + 0) := (hl2.trans (by rw [if_neg hkc, if_neg hka])).trans (by omega)
              clear hka hkc hl1 hl2
              go_wp2_with fail
              go_quiet (first | (go_at_call_of 18 (A1 k); exact quiet_at (KE1.out 0 (by have := H1.out; omega) (by omega) _ rfl)) | (go_at_call_of 18 (A2 k); exact quiet_at (KE2.out 0 (by have := H2.out; omega) (by omega) _ rfl)))
              go_wp2_with fail
              go_quiet (fail)
              go_wp2_with fail
              exact ⟨⟨k + 1, _, by omega, by go_num, rfl⟩, by simp [intOf]; omega⟩
          · have hne : ((a : Int) != (c : Int)) = true := by rw [bne_iff_ne]; omega
            have SR : Hid (∀ wx : World, wx.heap = w9.heap → Calls Try.prog 19 #[.slice (A1 k) (add1 (add1 (oldRow L Z) a b) c d k).length (C1 k), .slice (A2 k) (add1 (add1 (oldRow L Z) c d) a b k).length (C2 k)] wx fun e w' => e = .returned (.bool true) ∧ ∃ n, w' = wx.drewN n) := by
              have e := add1_comm (oldRow L Z) b d hac k
              have q1 := hG2.raddr k hlt
              have q2 := hG2.cell k hlt
              simp only [← e] at q1 q2
              rw [← e]
              exact fun wx hh => sameRow_true wx _ _ _ _ _ _ _ _ _ _ (hG1.raddr k hlt) (fun j hj => by rw [World.cell?_of_block (w := w9) (by rw [hh])]; exact hG1.cell k hlt j hj) q1 (fun j hj => by rw [World.cell?_of_block (w := w9) (by rw [hh])]; exact q2 j hj) (by omega)
            generalize (add1 (add1 (oldRow L Z) a b) c d k).length = l1 at c1 hl1 hm1 KE1 SR
            generalize (add1 (add1 (oldRow L Z) c d) a b k).length = l2 at c2 hl2 hm2 KE2 SR
            by_cases hka : k = a
            · have hkc : k ≠ c := by omega
              clear hac
              have eka : ((k : Int) == (a : Int)) = true := by rw [beq_iff_eq]; omega
              have ekc : ((k : Int) == (c : Int)) = false := by rw [beq_eq_false_iff_ne]; omega
              have H1 : Hid (l1 = L k + 1) := (hl1.trans (by rw [if_pos hka, if_neg hkc])).trans (by omega)
              have H2 : Hid (l2 = L k + 1) := (hl2.trans (by rw [if_neg hkc, if_pos hka])).trans (by omega)
              clear hka hkc hl1 hl2
              go_wp2_with fail
              go_quiet (first | (go_at_call_of 18 (A1 k); exact quiet_at (KE1.out 1 (by have := H1.out; omega) (by omega) _ rfl)) | (go_at_call_of 18 (A2 k); exact quiet_at (KE2.out 1 (by have := H2.out; omega) (by omega) _ rfl)))
              go_wp2_with fail
              go_quiet ((go_at_call 19; exact quiet_at (SR.out _ rfl)))
              go_wp2_with fail
              exact ⟨⟨k + 1, _, by omega, by go_num, rfl⟩, by simp [intOf]; omega⟩
            · by_cases hkc : k = c
              · clear hac
                have eka : ((k : Int) == (a : Int)) = false := by rw [beq_eq_false_iff_ne]; omega
                have ekc : ((k : Int) == (c : Int)) = true := by rw [beq_iff_eq]; omega
                have H1 : Hid (l1 = L k + 1) := (hl1.trans (by rw [if_neg hka, if_pos hkc])).trans (by omega)
                have H2 : Hid (l2 = L k + 1) := (hl2.trans (by rw [if_pos hkc, if_neg hka])).trans (by omega)
                clear hka hkc hl1 hl2
                go_wp2_with fail
                go_quiet (first | (go_at_call_of 18 (A1 k); exact quiet_at (KE1.out 1 (by have := H1.out; omega) (by omega) _ rfl)) | (go_at_call_of 18 (A2 k); exact quiet_at (KE2.out 1 (by have := H2.out; omega) (by omega) _ rfl)))
                go_wp2_with fail
                go_quiet ((go_at_call 19; exact quiet_at (SR.out _ rfl)))
                go_wp2_with fail
                exact ⟨⟨k + 1, _, by omega, by go_num, rfl⟩, by simp [intOf]; omega⟩
              · clear hac
                have eka : ((k : Int) == (a : Int)) = false := by rw [beq_eq_false_iff_ne]; omega
                have ekc : ((k : Int) == (c : Int)) = false := by rw [beq_eq_false_iff_ne]; omega
                have H1 : Hid (l1 = L k + 0) := (hl1.trans (by rw [if_neg hka, if_neg hkc])).trans (by omega)
                have H2 : Hid (l2 = L k + 0) := (hl2.trans (by rw [if_neg hkc, if_neg hka])).trans (by omega)
                clear hka hkc hl1 hl2
                go_wp2_with fail
                go_quiet (first | (go_at_call_of 18 (A1 k); exact quiet_at (KE1.out 0 (by have := H1.out; omega) (by omega) _ rfl)) | (go_at_call_of 18 (A2 k); exact quiet_at (KE2.out 0 (by have := H2.out; omega) (by omega) _ rfl)))
                go_wp2_with fail
                go_quiet ((go_at_call 19; exact quiet_at (SR.out _ rfl)))
                go_wp2_with fail
                exact ⟨⟨k + 1, _, by omega, by go_num, rfl⟩, by simp [intOf]; omega⟩
        · have hLa := hL2 a ha
          have hLc := hL2 c hc
          have ca := hg9.top a ha
          have cc := hg9.top c hc
          by_cases hac : a = c
          · subst hac
            have hne : ((a : Int) != (a : Int)) = false := by simp
            obtain ⟨m1, m2, m3⟩ := old_snoc2 L Z a b d
            obtain ⟨n1, n2, n3⟩ := old_snoc2 L Z a d b
            obtain ⟨f1, fc⟩ := row_at hG1 ha (by rw [add1_hit, add1_hit]) m1 (by omega)
            obtain ⟨e1, ec⟩ := row_at hG2 ha (by rw [add1_hit, add1_hit]) n1 (by omega)
            have f2 := fc (L a) b (by omega) m2
            have f3 := fc (L a + 1) d (by omega) m3
            have e2 := ec (L a) d (by omega) n2
            have e3 := ec (L a + 1) b (by omega) n3
            clear m1 m2 m3 n1 n2 n3 fc ec
            go_wp2_with fail
            go_ret
            exact ⟨rfl, below_drewN hb nq⟩
          · have hne : ((a : Int) != (c : Int)) = true := by rw [bne_iff_ne]; omega
            obtain ⟨m1, m2⟩ := old_snoc L Z a b
            obtain ⟨n1, n2⟩ := old_snoc L Z c d
            obtain ⟨f1, fc⟩ := row_at hG1 ha (by rw [add1_miss _ _ hac, add1_hit]) m1 (by omega)
            obtain ⟨e1, ec⟩ := row_at hG1 hc (by rw [add1_hit, add1_miss _ _ (fun e => hac e.symm)]) n1 (by omega)
            have f2 := fc (L a) b (by omega) m2
            have e2 := ec (L c) d (by omega) n2
            clear m1 m2 n1 n2 fc ec
            go_wp2_with fail
            go_quiet (fail)
            go_wp2_with fail
            go_ret
            exact ⟨rfl, below_drewN (below_drewN hb _) _⟩

end
end Go.Proofs.Qxb6615984a
