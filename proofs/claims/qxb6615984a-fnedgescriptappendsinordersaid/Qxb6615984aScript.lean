/-
  THE WALK of 'FnEdgeScriptAppendsInOrder' (function 6).
-/
import Derived.Test.Qxb6615984aGraph
import Derived.Test.Qxb6615984aScriptPlain
import Derived.Deep.RegionHeld3
namespace Go.Proofs.Qxb6615984a
open Go.RowKit Go.Deep

/-- '[][2]int' of m pairs at ⟨eb, ex⟩: pair k is (S k, D k). -/
structure Edges (w : World) (eo : Option Addr) (m eb ex : Nat) (S D : Nat → Int) : Prop where
  addr : 0 < m → eo = some ⟨eb, ex, none⟩
  src : ∀ k, k < m → w.cell? ⟨eb, ex + k * 2, none⟩ = some (.int .i64 (S k))
  dst : ∀ k, k < m → w.cell? ⟨eb, ex + k * 2 + 1, none⟩ = some (.int .i64 (D k))

theorem Edges.below {w w' : World} {eo : Option Addr} {m eb ex : Nat} {S D : Nat → Int} (h : Edges w eo m eb ex S D) (hb : Below w.heap.size w w') : Edges w' eo m eb ex S D :=
  ⟨h.addr, fun k hk => by rw [hb.cell (World.block_lt_of_cell? w _ (h.src k hk))]; exact h.src k hk, fun k hk => by rw [hb.cell (World.block_lt_of_cell? w _ (h.dst k hk))]; exact h.dst k hk⟩

section
variable {n cap : Nat} {A : Nat → Option Addr} {L C : Nat → Nat} {Z : Nat → Nat → Int} {b o : Nat} {Ab Ao : Nat → Nat} {eo : Option Addr} {m ecap eb ex : Nat} {S D : Nat → Int}

set_option maxRecDepth 100000 in
set_option maxHeartbeats 1000000 in
theorem script_main (w : World) (a : Addr) (hg : Grid w (some a) n A L C Z b o Ab Ao) (he : Edges w eo m eb ex S D) (hL : ∀ i, i < n → L i ≤ maxLen) (hA : ∀ i, i < n → A i = none → L i = 0) (hn : n ≤ 4096) (hm : m ≤ 4096) :
    Calls Try.prog 6 #[.slice (some a) n cap, .slice eo m ecap] w fun e w' => e = .returned (.bool true) ∧ Below w.heap.size w w' := by
  have g1 : decide (4096 < (n : Int)) = false := by simp; omega
  have g2 : decide (4096 < (m : Int)) = false := by simp; omega
  go_enter Try.func6, Try.ntmps6
  go_wp2_with fail
  refine (bytesS_any (cap := cap) w hg hL (by unfold maxLen; omega) eo m ecap (by unfold maxLen; omega)).mono ?_
  rintro e w ⟨⟨r, rfl⟩, rfl⟩
  cases r with
  | false =>
    go_wp2
    go_ret
    exact ⟨rfl, Below.refl _ _⟩
  | true =>
    go_wp2_with fail
    refine (rowsBytes_any (cap := cap) w hg hL (by unfold maxLen; omega) (16 * (m : Int)) (by omega) (by omega)).mono ?_
    rintro e w ⟨r, rfl, rfl, hfit⟩
    by_cases hr : 1048576 < r
    · go_wp2_with fail
      go_ret
      exact ⟨rfl, Below.refl _ _⟩
    · obtain ⟨_, hL2⟩ := hfit (by omega)
      go_wp2_with fail
      go_loop [5] (fun i => ∃ k : Nat, k ≤ m ∧ i = .int .i64 k ∧ ∀ j, j < k → 0 ≤ S j ∧ S j < n) (fun i => m - (intOf i).toNat)
      case atStart => exact ⟨0, Nat.zero_le _, rfl, fun j hj => by omega⟩
      case round =>
        obtain ⟨k, hk, rfl, hv⟩ := hrel
        by_cases hlt : k < m
        · have e := he.addr (by omega)
          subst e
          have c := he.src k hlt
          by_cases hs0 : S k < 0
          · go_wp2_with fail
            go_ret
            exact ⟨rfl, Below.refl _ _⟩
          · have hs0' : decide (S k < 0) = false := by simpa using hs0
            by_cases hs1 : S k < n
            · go_wp2_with fail
              refine ⟨⟨k + 1, by omega, by go_num, fun j hj => ?_⟩, by simp [intOf]; omega⟩
              by_cases hjk : j = k
              · subst hjk; exact ⟨by omega, hs1⟩
              · exact hv j (by omega)
            · go_wp2_with fail
              go_ret
              exact ⟨rfl, Below.refl _ _⟩
        · obtain rfl : m = k := by omega
          -- THE SOURCES ARE NODES
          obtain ⟨s, hs⟩ : ∃ s : Nat → Nat, ∀ j, j < m → S j = (s j : Int) ∧ s j < n := ⟨fun j => (S j).toNat, fun j hj => by have := hv j hj; show S j = ((S j).toNat : Int) ∧ (S j).toNat < n; omega⟩
          have HS : Hid _ := hs
          clear hs hv
          go_wp2_with fail
          refine (copy_some (cap := cap) w a hg hn hL2 hA).mono ?_
          rintro e w2 ⟨rfl, hb2, Hd, hfr⟩
          go_wp2_with fail
          refine (new_any w2 (some ⟨w.heap.size, 0, none⟩) n n).mono ?_
          rintro e w3 ⟨rfl, hw3⟩
          have hgr := Graph.new hfr
          have hb3 : Below w.heap.size w w3 := by rw [hw3]; exact hb2.alloc hb2.size _
          rw [← hw3] at hgr
          generalize w2.heap.size = gb at *
          clear hw3 hfr hb2
          go_wp2_with fail
          go_loopw [7] (fun i wr => ∃ (k : Nat) (Hd : Nat → Value), k ≤ m ∧ i = .int .i64 k ∧ Below w.heap.size w wr ∧ Graph w.heap.size gb w.heap.size n Hd (runE s D (oldRow L Z) k) wr) (fun i _ => m - (intOf i).toNat)
          case atStart => exact ⟨0, _, Nat.zero_le _, rfl, hb3, hgr⟩
          case round =>
            rename World => w4
            obtain ⟨k, Hd, hk, rfl, hb4, hgr⟩ := hrel
            by_cases hlt2 : k < m
            · have e := he.addr (by omega)
              subst e
              obtain ⟨es, hsn⟩ := HS.out k hlt2
              have c0 := (he.below hb4).src k hlt2
              have c1 := (he.below hb4).dst k hlt2
              rw [es] at c0
              have hlen : (runE s D (oldRow L Z) k (s k)).length ≤ 4194304 := by
                have h1 := runE_len s D (oldRow L Z) (s k) k
                have h2 : (oldRow L Z (s k)).length = L (s k) := by simp [oldRow]
                have h3 := hL2 (s k) hsn
                omega
              have hi0 : (0 : Int) ≤ (k : Int) := by omega
              have hi1 : (k : Int) < (m : Int) := by omega
              have leb : eb < w.heap.size := World.block_lt_of_cell? w _ (he.src k hlt2)
              have EC : Hid _ := fun (wx : World) (hx : Graph w.heap.size gb w.heap.size n Hd (runE s D (oldRow L Z) k) wx) => hx.edge (s k) (D k) hsn hlen
              have hgd : Graph w.heap.size gb w.heap.size n Hd (runE s D (oldRow L Z) k) w4.drew := hgr.keep (fun _ _ => rfl)
              clear hgr es hlen
              go_wp2_with fail
              go_region_held3 (fun w' => w'.cell? ⟨eb, ex + k * 2, none⟩ = some (.int .i64 (s k : Int)) ∧ w'.cell? ⟨eb, ex + k * 2 + 1, none⟩ = some (.int .i64 (D k)))
                (first
                  | go_keep
                  | (go_split_ands
                     refine ⟨?_, ?_⟩
                     · (rw [hbE.cell leb]; assumption)
                     · (rw [hbE.cell leb]; assumption)))
                ((go_at_call 16; refine (EC.out _ hgd).mono ?_; rintro e wE ⟨rfl, hbE, HdE, hgE⟩))
              go_wp2_with fail
              exact ⟨⟨k + 1, HdE, by omega, by go_num, hb4.drew.trans hbE, hgE⟩, by simp [intOf]; omega⟩
            · obtain rfl : m = k := by omega
              obtain ⟨A', C', Ab', hgd⟩ := hgr.grid
              have hcell := hgr.cell
              go_wp2_with fail
              refine (next_any w4 gb _ hcell ⟨_, _, _, rfl⟩).mono ?_
              rintro e w5 ⟨rfl, rfl⟩
              clear hgr hcell
              go_wp2_with fail
              go_loopw [9] (fun i wr => ∃ (k nq : Nat), k ≤ n ∧ i = .int .i64 k ∧ wr = w5.drewN nq) (fun i _ => n - (intOf i).toNat)
              case atStart => exact ⟨0, 0, Nat.zero_le _, rfl, rfl⟩
              case round =>
                obtain ⟨k, nq, hk, rfl, rfl⟩ := hrel
                by_cases hlt3 : k < n
                · obtain rfl : a = ⟨b, o, none⟩ := Option.some.inj (hg.addr (by omega))
                  have c0 := hgd.top k hlt3
                  have c1 := (hg.below hb4).top k hlt3
                  rw [Nat.zero_add] at c0
                  -- WHAT IS KNOWN OF ROW k
                  have ra : Hid (0 < L k → A k = some ⟨Ab k, Ao k, none⟩) := hg.raddr k hlt3
                  have ra' : Hid (0 < (runE s D (oldRow L Z) m k).length → A' k = some ⟨Ab' k, 0, none⟩) := hgd.raddr k hlt3
                  have cells : Hid (∀ j, j < L k → w5.cell? ⟨Ab k, Ao k + j, none⟩ = some (.int .i64 (Z k j))) := (hg.below hb4).cell k hlt3
                  have cells' : Hid (∀ j, j < (runE s D (oldRow L Z) m k).length → w5.cell? ⟨Ab' k, 0 + j, none⟩ = some (.int .i64 ((runE s D (oldRow L Z) m k).getD j 0))) := hgd.cell k hlt3
                  have hge : L k ≤ (runE s D (oldRow L Z) m k).length := by
                    have := runE_ge s D (oldRow L Z) k 0 m (Nat.zero_le _)
                    simpa [runE, oldRow] using this
                  have hLk := hL2 k hlt3
                  have hRl : (runE s D (oldRow L Z) m k).length ≤ 2097152 := by
                    have h1 := runE_len s D (oldRow L Z) k m
                    have h2 : (oldRow L Z k).length = L k := by simp [oldRow]
                    omega
                  have hold : Hid (∀ j, j < L k → (runE s D (oldRow L Z) m k).getD j 0 = Z k j) := fun j hj => by
                    rw [runE_old s D (oldRow L Z) k m j (by simpa [oldRow] using hj)]
                    simp [oldRow, List.getD, hj]
                  have hnew : Hid (∀ x, x < m → s x = k → (runE s D (oldRow L Z) x k).length < (runE s D (oldRow L Z) m k).length ∧ (runE s D (oldRow L Z) m k).getD (runE s D (oldRow L Z) x k).length 0 = D x) := fun x hx e => by
                    have := runE_at s D (oldRow L Z) hx
                    rw [e] at this; exact this
                  generalize hRk : runE s D (oldRow L Z) m k = Rk at c0 ra' cells' hge hold hnew hRl
                  have HRk : Hid (runE s D (oldRow L Z) m k = Rk) := hRk
                  clear hRk
                  generalize A k = ar at c1 ra
                  generalize A' k = ar' at c0 ra'
                  have hge2 : decide (Rk.length < L k) = false := by simpa using hge
                  have hge3 : decide ((Rk.length : Int) < (L k : Int)) = false := by simp; omega
                  go_wp2_with fail
                  clear c0 c1
                  go_loopw [12] (fun j wr => ∃ (jj nq : Nat), jj ≤ L k ∧ j = .int .i64 jj ∧ wr = w5.drewN nq) (fun j _ => L k - (intOf j).toNat)
                  case atStart => exact ⟨0, nq, Nat.zero_le _, rfl, rfl⟩
                  case round =>
                    obtain ⟨jj, nq2, hjj, rfl, rfl⟩ := hrel
                    by_cases hjl : jj < L k
                    · have e1 := ra.out (by omega)
                      have e2 := ra'.out (by omega)
                      subst e1
                      subst e2
                      have d0 := cells.out jj hjl
                      have d1 := cells'.out jj (by omega)
                      rw [hold.out jj hjl, Nat.zero_add] at d1
                      have hj0 : (0 : Int) ≤ (jj : Int) := by omega
                      have hj1 : (jj : Int) < (L k : Int) := by omega
                      have hj2 : (jj : Int) < (Rk.length : Int) := by omega
                      go_wp2_with fail
                      go_quiet (fail)
                      go_wp2_with fail
                      exact ⟨⟨jj + 1, _, by omega, by go_num, rfl⟩, by simp [intOf]; omega⟩
                    · go_wp2_with fail
                      go_loopw [13, 14] (fun p i wr => ∃ (x nq : Nat), x ≤ m ∧ i = .int .i64 x ∧ p = .int .i64 ((runE s D (oldRow L Z) x k).length : Nat) ∧ wr = w5.drewN nq) (fun _ i _ => m - (intOf i).toNat)
                      case atStart => exact ⟨0, nq2, Nat.zero_le _, rfl, by simp [runE, oldRow], rfl⟩
                      case round =>
                        obtain ⟨x, nq3, hx, rfl, rfl, rfl⟩ := hrel
                        by_cases hxm : x < m
                        · have e := he.addr (by omega)
                          subst e
                          obtain ⟨es, hsn⟩ := HS.out x hxm
                          have c0 := (he.below hb4).src x hxm
                          have c1 := (he.below hb4).dst x hxm
                          rw [es] at c0
                          clear es
                          have hx0 : (0 : Int) ≤ (x : Int) := by omega
                          have hx1 : (x : Int) < (m : Int) := by omega
                          by_cases hsk : s x = k
                          · obtain ⟨q1, q2⟩ := hnew.out x hxm hsk
                            have e2 := ra'.out (by omega)
                            subst e2
                            have d1 := cells'.out _ q1
                            rw [q2, Nat.zero_add] at d1
                            have hst : Hid (runE s D (oldRow L Z) (x + 1) k = runE s D (oldRow L Z) x k ++ [D x]) := by
                              have := runE_hit s D (oldRow L Z) x
                              rw [hsk] at this; exact this
                            rw [hsk] at c0
                            have HSK : Hid (s x = k) := hsk
                            clear q2 hsk
                            generalize hpl : (runE s D (oldRow L Z) x k).length = pl at q1 d1
                            have HPL : Hid ((runE s D (oldRow L Z) x k).length = pl) := hpl
                            clear hpl
                            have hp0 : (0 : Int) ≤ (pl : Int) := by omega
                            have hp1 : (pl : Int) < (Rk.length : Int) := by omega
                            have hp2 : decide ((Rk.length : Int) ≤ (pl : Int)) = false := by simp; omega
                            have hp3 : decide (Rk.length ≤ pl) = false := by simp; omega
                            go_wp2_with fail
                            go_quiet (fail)
                            go_wp2_with fail
                            refine ⟨⟨x + 1, _, by omega, by go_num, ?_, rfl⟩, by simp [intOf]; omega⟩
                            rw [hst.out, List.length_append, HPL.out]
                            go_num
                          · have hne : ((s x : Int) != (k : Int)) = true := by rw [bne_iff_ne]; omega
                            go_wp2_with fail
                            refine ⟨⟨x + 1, nq3, by omega, by go_num, ?_, rfl⟩, by simp [intOf]; omega⟩
                            rw [runE_miss _ _ _ (fun e => hsk e.symm)]
                        · obtain rfl : x = m := by omega
                          have hfin : ((((runE s D (oldRow L Z) x k).length : Nat) : Int) != (Rk.length : Int)) = false := by rw [HRk.out]; simp
                          go_wp2_with fail
                          exact ⟨⟨k + 1, nq3, by omega, by go_num, rfl⟩, by simp [intOf]; omega⟩
                · go_wp2_with fail
                  go_ret
                  exact ⟨rfl, below_drewN hb4 nq⟩

end
end Go.Proofs.Qxb6615984a
