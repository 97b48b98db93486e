/- The walk of the law's comparison of two lists of gifts that are one. -/
import Derived.Test.YtipmpeekfajlcaaFits
namespace Go.Proofs.Ytipmpeekfajlcaa
open Go.RowKit

theorem stepS_small {S S1 : Sts} {s : Stp} {g : Got} (h : S.WF) (e : stepS S s = some (g, S1)) : g.2.length ≤ S.homes.length := by
  unfold stepS at e
  split at e
  · split at e
    · cases e; simp
    · cases e
  · split at e
    · split at e
      · cases e; simp
      · cases e
    · split at e
      · rename_i hs
        split at e
        · cases e; simp
        · split at e
          · cases e; simp
          · split at e
            · cases e
              have := h.few s.scope.toNat (by have := hs.1; have := hs.2; omega)
              simpa [isort_length] using this
            · repeat' split at e
              all_goals (cases e <;> simp)
      · cases e
theorem runS_small : ∀ (ss : List Stp) (S S1 : Sts) (gs : List Got), S.WF → runS S ss = some (gs, S1) → ∀ g ∈ gs, g.2.length ≤ S.homes.length + ss.length
  | [], _, _, _, _, e, g, hg => by cases e; cases hg
  | a :: r, S, S1, gs, hS, e, g, hg => by
    simp only [runS] at e
    cases e1 : stepS S a with
    | none => rw [e1] at e; cases e
    | some q =>
      obtain ⟨g0, S0⟩ := q
      rw [e1] at e
      simp only at e
      cases e2 : runS S0 r with
      | none => rw [e2] at e; cases e
      | some q2 =>
        obtain ⟨gr, S3⟩ := q2
        rw [e2] at e
        simp only [Option.some.injEq, Prod.mk.injEq] at e
        obtain ⟨rfl, rfl⟩ := e
        have hw := stepS_wf hS e1
        rcases List.mem_cons.1 hg with e' | hg
        · subst e'
          have := stepS_small hS e1
          simp
          omega
        · have := runS_small r S0 S3 gr hw.1 e2 g hg
          simp
          omega

/-- The slice v reads as the gifts gs. -/
def GotR (w : World) (v : Value) (gs : List Got) : Prop :=
  ∃ va c, v = .slice va gs.length c ∧ ∀ i (h : i < gs.length), ∃ g a m, va = some ⟨g, 0, none⟩ ∧ w.cell? ⟨g, i * 2, none⟩ = some (.int .i64 gs[i].1) ∧ w.cell? ⟨g, i * 2 + 1, none⟩ = some (.slice a gs[i].2.length m) ∧
    ∀ j (hj : j < gs[i].2.length), ∃ g', a = some ⟨g', 0, none⟩ ∧ w.cell? ⟨g', j, none⟩ = some (.string gs[i].2[j])

theorem GotsAt.reads {B : Nat} {T : Nat → Nat} {w : World} {v : Value} {gs : List Got} {vs : Nat → Value} (h : GotsAt B T w v gs vs) : GotR w v gs := by
  obtain ⟨va, c, rfl⟩ := row_shape h.row
  refine ⟨va, c, rfl, fun i hi => ?_⟩
  obtain ⟨g, cap, e, _, _⟩ := h.row.form (by omega)
  have hr := h.row
  rw [e] at hr
  cases e
  have q1 : (i * 2) % 2 = 0 := by omega
  have q2 : (i * 2) / 2 = i := by omega
  have q3 : (i * 2 + 1) % 2 ≠ 0 := by omega
  have q4 : (i * 2 + 1) / 2 = i := by omega
  have e1 : w.cell? ⟨g, i * 2, none⟩ = some (.int .i64 gs[i].1) := by
    rw [hr.cellAt _ (by omega), List.getElem?_map, List.getElem?_range (by omega)]
    simp [gotCells, q1, q2, hi]
  have e2 : w.cell? ⟨g, i * 2 + 1, none⟩ = some (vs i) := by
    rw [hr.cellAt _ (by omega), List.getElem?_map, List.getElem?_range (by omega)]
    simp [gotCells, q4]
  rcases h.names i hi with ⟨hn, a, m, hv⟩ | ⟨g', cap', hv, h0, hc⟩
  · have hn' : gs[i].2 = [] := by simpa using hn
    refine ⟨g, a, m, rfl, e1, by rw [e2, hv, hn']; rfl, fun j hj => ?_⟩
    rw [hn'] at hj
    simp at hj
  · refine ⟨g, some ⟨g', 0, none⟩, cap', rfl, e1, by rw [e2, hv]; simp, fun j hj => ⟨g', rfl, ?_⟩⟩
    rw [hc j (by simpa using hj)]
    simp

theorem GotR.chg {w w' : World} {v : Value} {gs : List Got} (h : GotR w v gs) (k : Chg (fun _ => False) w w') : GotR w' v gs := by
  obtain ⟨va, c, rfl, h⟩ := h
  refine ⟨va, c, rfl, fun i hi => ?_⟩
  obtain ⟨g, a, m, e, h1, h2, h3⟩ := h i hi
  refine ⟨g, a, m, e, k.cell h1 (fun f => f), k.cell h2 (fun f => f), fun j hj => ?_⟩
  obtain ⟨g', e', h4⟩ := h3 j hj
  exact ⟨g', e', k.cell h4 (fun f => f)⟩

set_option maxHeartbeats 4000000 in
set_option maxRecDepth 100000 in
theorem same_any {w : World} {v1 v2 : Value} {gs : List Got} (h1 : GotR w v1 gs) (h2 : GotR w v2 gs) (hl : gs.length ≤ 100) (hs : ∀ g ∈ gs, g.2.length ≤ 1000) :
    Calls Try.prog 12 #[v1, v2] w fun e w' => e = .returned (.bool true) ∧ Chg (fun _ => False) w w' := by
  obtain ⟨a1, c1, rfl, h1⟩ := h1
  obtain ⟨a2, c2, rfl, h2⟩ := h2
  have H1 := Lib.hid h1
  have H2 := Lib.hid h2
  have HS := Lib.hid hs
  clear h1 h2 hs
  go_enter Try.func12, Try.ntmps12
  go_wp2
  go_loopw [16] (fun i wr => ∃ j : Nat, j ≤ gs.length ∧ i = .int .i64 j ∧ Chg (fun _ => False) w wr) (fun i _ => gs.length - (intOf i).toNat)
  case atStart => exact ⟨0, Nat.zero_le _, rfl, Chg.refl _ _⟩
  case round =>
    obtain ⟨j, hj, rfl, hch⟩ := hrel
    have hwz := hch.size
    have HCH := Lib.hid hch
    clear hch
    by_cases hlt : j < gs.length
    · obtain ⟨g1, n1, m1, rfl, p1, p2, p3⟩ := H1.out j hlt
      obtain ⟨g2, n2, m2, rfl, r1, r2, r3⟩ := H2.out j hlt
      have k1 := HCH.out.cell p1 (fun f => f)
      have k2 := HCH.out.cell p2 (fun f => f)
      have k3 := HCH.out.cell r1 (fun f => f)
      have k4 := HCH.out.cell r2 (fun f => f)
      have hg1 : g1 < wr.heap.size := World.block_lt_of_cell? wr _ k1
      have hg2 : g2 < wr.heap.size := World.block_lt_of_cell? wr _ k3
      have hjI : (j : Int) < (gs.length : Int) := by omega
      have hj0 : (0 : Int) ≤ (j : Int) := by omega
      have hsm := HS.out _ (List.getElem_mem hlt)
      have P3 := Lib.hid p3
      have R3 := Lib.hid r3
      have HSM := Lib.hid hsm
      generalize gs[j] = got at *
      obtain ⟨num, G⟩ := got
      simp only at *
      clear p1 p2 p3 r1 r2 r3
      have dn : (num != num) = false := by simp
      have dl : ((G.length : Int) != (G.length : Int)) = false := by simp
      go_wp2
      go_quiet (fail)
      go_wp2
      go_loop [44] (fun i => ∃ k : Nat, k ≤ G.length ∧ i = .int .i64 k) (fun i => G.length - (intOf i).toNat)
      case atStart => exact ⟨0, Nat.zero_le _, rfl⟩
      case round =>
        obtain ⟨k, hk, rfl⟩ := hrel
        have hsm2 := HSM.out
        by_cases hkl : k < G.length
        · obtain ⟨x1, rfl, y1⟩ := P3.out k hkl
          obtain ⟨x2, rfl, y2⟩ := R3.out k hkl
          have z1 := HCH.out.cell y1 (fun f => f)
          have z2 := HCH.out.cell y2 (fun f => f)
          have hx1 : x1 < wr.heap.size := World.block_lt_of_cell? wr _ z1
          have hx2 : x2 < wr.heap.size := World.block_lt_of_cell? wr _ z2
          have hkI : (k : Int) < (G.length : Int) := by omega
          have hk0 : (0 : Int) ≤ (k : Int) := by omega
          have d : ((G[k]).toList == (G[k]).toList) = true := beq_self_eq_true _
          clear y1 y2
          go_wp2
          exact ⟨⟨k + 1, by omega, by go_num⟩, by simp [intOf]; omega⟩
        · go_wp2
          exact ⟨⟨j + 1, by omega, by go_num, (HCH.out.alloc _).drewN _⟩, by simp [intOf]; omega⟩
    · go_wp2
      go_ret
      exact ⟨rfl, HCH.out⟩
end Go.Proofs.Ytipmpeekfajlcaa
