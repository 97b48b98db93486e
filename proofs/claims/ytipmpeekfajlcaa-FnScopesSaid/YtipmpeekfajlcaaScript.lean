/- The walk of the program over many steps: what it gives is what runS gives. -/
import Derived.Test.YtipmpeekfajlcaaTake4
namespace Go.Proofs.Ytipmpeekfajlcaa
open Go.RowKit

theorem take_any {B : Nat} {T : Nat → Nat} {w : World} {r : Nat} {S S' : Sts} {g : Got} (h : ImplAt B T w r S) (hS : S.WF) (hB : B ≤ w.heap.size) (hm : S.homes.length ≤ 900) (s : Stp) (hnm : s.name.size ≤ maxLen) (e : stepS S s = some (g, S')) :
    Calls Try.prog 22 #[.pointer (some ⟨r, 0, none⟩), stpV s] w (TakePost B T w r g S') := by
  obtain ⟨kd, sc, nm, ix⟩ := s
  unfold stepS at e
  simp only at e hnm
  split at e
  · rename_i h0
    subst h0
    split at e
    · rename_i hc
      cases e
      rcases hc.1 with h1 | h1
      · subst h1
        exact take_root h hS hB hc.2 ix nm
      · obtain ⟨k, rfl, hk⟩ := has_nat h1
        exact take_in h hS hB hc.2 k hk ix nm
    · cases e
  · split at e
    · rename_i h8
      subst h8
      split at e
      · rename_i hc
        cases e
        have := take_home h hS sc ix.toNat (by omega) nm
        have e1 : ((ix.toNat : Nat) : Int) = ix := by omega
        rw [e1] at this
        exact this
      · cases e
    · split at e
      · rename_i hh
        obtain ⟨k, rfl, hk⟩ := has_nat hh
        simp only [Int.toNat_natCast] at e
        split at e
        · rename_i h1
          subst h1
          cases e
          unfold Sts.old Sts.insert
          by_cases hf : 0 ≤ findI (S.reg k).names (S.reg k).objs nm
          · rw [if_pos hf, if_pos hf]
            exact take_ins_old h hS hB hm k hk ix nm hnm hf
          · rw [if_neg hf, if_neg hf]
            exact take_ins_new h hS hB hm k hk ix nm hnm (by omega)
        · split at e
          · rename_i h2; subst h2; cases e; exact take_look h hS k hk ix nm hm hnm
          · split at e
            · rename_i h3; subst h3; cases e; exact take_names h hS k hk ix nm hm
            · split at e
              · rename_i h4; subst h4; cases e; exact take_len h hS k hk ix nm
              · split at e
                · rename_i h5; subst h5; cases e; exact take_kids h hS k hk ix nm
                · split at e
                  · rename_i h6
                    subst h6
                    split at e
                    · rename_i hc
                      cases e
                      exact take_kid h hS k hk ix nm ix.toNat (by omega) (by omega)
                    · cases e
                  · split at e
                    · rename_i h7; subst h7; cases e; exact take_par h hS k hk ix nm
                    · cases e
      · cases e

theorem runS_take : ∀ (ss : List Stp) (S : Sts) (gs : List Got) (S2 : Sts), runS S ss = some (gs, S2) → ∀ j (h : j < ss.length), ∃ gj Sj g S1, runS S (ss.take j) = some (gj, Sj) ∧ stepS Sj ss[j] = some (g, S1)
  | [], _, _, _, _, j, h => by simp at h
  | a :: r, S, gs, S2, e, j, h => by
    simp only [runS] at e
    cases e1 : stepS S a with
    | none => rw [e1] at e; cases e
    | some q =>
      obtain ⟨g0, S0⟩ := q
      rw [e1] at e
      simp only at e
      cases e2 : runS S0 r with
      | none => rw [e2] at e; cases e
      | some q2 =>
        obtain ⟨gr, S3⟩ := q2
        cases j with
        | zero => exact ⟨[], S, g0, S0, rfl, e1⟩
        | succ j =>
          obtain ⟨gj, Sj, g, S1, h1, h2⟩ := runS_take r S0 gr S3 e2 j (by simpa using h)
          exact ⟨g0 :: gj, Sj, g, S1, by simp [runS, e1, h1], by simpa using h2⟩

theorem impl_empty (w : World) : ImplAt w.heap.size (upd (fun _ => 0) w.heap.size 1) ((w.alloc (.cells #[.slice none 0 0, .slice none 0 0] 60 (0, 0))).alloc (.cells #[] 53 (0, 0))) w.heap.size Sts.empty := by
  refine ⟨none, none, 0, 0, ⟨fun _ => 0, fun _ => none, fun _ => 0, fun _ => 0, fun _ => none, fun _ => 0, fun _ => #[]⟩, ?_⟩
  exact { top := (Below.heap_alloc _ _ _ (by simp)).trans (heap_alloc_new w _), tr := upd_self _ _ _
          lrow := ⟨by simp [Sts.empty], .inl ⟨rfl, rfl⟩⟩, tl := fun g e => (by cases e), orow := ⟨by simp [Sts.empty], .inl ⟨rfl, rfl⟩⟩, tob := fun g e => (by cases e)
          sc := fun i hi => (by simp [Sts.empty] at hi), ts := fun i hi => (by simp [Sts.empty] at hi), krow := fun i hi => (by simp [Sts.empty] at hi), tk := fun i hi => (by simp [Sts.empty] at hi)
          mrep := fun i hi => (by simp [Sts.empty] at hi), tm := fun i hi => (by simp [Sts.empty] at hi), obj := fun i hi => (by simp [Sts.empty] at hi), tj := fun i hi => (by simp [Sts.empty] at hi)
          fresh := fun b hb => by
            by_cases e : b = w.heap.size
            · subst e; simp; omega
            · rw [upd_other _ _ e] at hb; exact absurd rfl hb }

/-- Where the walk stands: j steps have been taken. -/
def ScRel (B : Nat) (w : World) (r : Nat) (ss : List Stp) (v i : Value) (w' : World) : Prop :=
  ∃ (j : Nat) (S : Sts) (gs : List Got) (vs : Nat → Value) (T : Nat → Nat), j ≤ ss.length ∧ i = .int .i64 j ∧ runS Sts.empty (ss.take j) = some (gs, S) ∧ gs.length = j ∧ S.WF ∧ S.homes.length ≤ j ∧
    ImplAt B T w' r S ∧ GotsAt B T w' v gs vs ∧ Chg (fun _ => False) w w' ∧ ∀ b, T b ≠ 0 → B ≤ b

/-- What the program gives. -/
def ScriptPost (w : World) (gs : List Got) (e : Ending) (w' : World) : Prop :=
  Chg (fun _ => False) w w' ∧ ∃ (v : Value) (vs : Nat → Value) (T : Nat → Nat), e = .returned v ∧ GotsAt w.heap.size T w' v gs vs

theorem script_start (w : World) (ss : List Stp) : ScRel w.heap.size w w.heap.size ss (.slice (some ⟨w.heap.size + 1, 0, none⟩) 0 0) (.int .i64 0) ((w.alloc (.cells #[.slice none 0 0, .slice none 0 0] 60 (0, 0))).alloc (.cells #[] 53 (0, 0))) := by
  refine ⟨0, Sts.empty, [], fun _ => .nilIface, _, Nat.zero_le _, rfl, rfl, rfl, Sts.empty_wf, Nat.le_refl _, impl_empty w, ?_, by repeat (first | exact Chg.refl _ _ | apply Chg.alloc | apply Chg.drew | apply Chg.drewN | (refine Chg.setCell ?_ (by first | exact .inl rfl | exact .inr (by first | (simp; done) | (simp; omega) | omega)) _) | fail), ?_⟩
  · have h := World.ownsRow_lit (base := w.heap.size) (e := 53) (size := 2) (w.alloc (.cells #[.slice none 0 0, .slice none 0 0] 60 (0, 0))) #[] 0 (by simp) (Nat.zero_le _) rfl
    refine { row := ?_, free := fun g e => ?_, names := fun i hi => (by cases hi), shape := fun i hi => (by cases hi), apart := fun i hi => (by cases hi) }
    · simpa using h
    · cases e
      exact upd_other _ _ (by simp)
  · intro b hb
    by_cases e : b = w.heap.size
    · omega
    · rw [upd_other _ _ e] at hb; exact absurd rfl hb

theorem script_next {w wr w1 wa w2 : World} {r g1 cap1 : Nat} {ss : List Stp} {S S' : Sts} {gs : List Got} {g : Got} {vs : Nat → Value} {T : Nat → Nat} {v : Value} {na : Option Addr} {nn nc : Nat} {o : Obj} (hj : gs.length < ss.length)
    (hrun : runS Sts.empty (ss.take gs.length) = some (gs, S)) (hst : stepS S ss[gs.length] = some (g, S')) (hwf : S.WF) (hhl : S.homes.length ≤ gs.length) (hga : GotsAt w.heap.size T wr v gs vs) (hch : Chg (fun _ => False) w wr) (hTB : ∀ b, T b ≠ 0 → w.heap.size ≤ b)
    (hch1 : Chg (fun b => T b ≠ 0) (wr.alloc o) w1) (hok : ∃ T', ImplAt w.heap.size T' w1 r S' ∧ Ext T T' (wr.alloc o) ∧ Names (wr.alloc o) w1 T' (.slice na nn nc) g.2)
    (ha : Chg (fun _ => False) w1 wa) (hg : wa.grownBy w2 v.ownBlock) (hown : w2.ownsRow w.heap.size 53 2 (.slice (some ⟨g1, 0, none⟩) (gs.length + 1) cap1) (gs.length + 1) ((List.range (gs.length * 2)).map (gotCells vs gs) ++ [.int .i64 g.1, .slice na nn nc])) (hat : v.ownBlock = some g1 ∨ g1 = wa.heap.size) :
    ScRel w.heap.size w r ss (.slice (some ⟨g1, 0, none⟩) (gs.length + 1) cap1) (.int .i64 ((gs.length : Int) + 1)) w2 := by
  obtain ⟨T', hsp', hx, hn, hnb⟩ := hok
  have hwf' := stepS_wf hwf hst
  have z0 := hch.size
  have z1 : wr.heap.size + 1 ≤ w1.heap.size := by have := hch1.size; simpa using this
  have hxr : Ext T T' wr := fun b hb => (hx b hb).imp id (fun h => by simp at h; omega)
  have hTB' : ∀ b, T' b ≠ 0 → w.heap.size ≤ b := fun b hb => by
    rcases hxr b hb with h' | h'
    · exact hTB b h'
    · omega
  have hT' : ∀ b, T' b ≠ 0 → b < w1.heap.size := fun b e => by obtain ⟨_, _, _, _, _, h'⟩ := hsp'; exact (h'.fresh b e).2
  have c0 : Chg (fun b => T b ≠ 0) wr w1 := ((Chg.refl _ wr).alloc o).trans hch1 (fun _ e => .inl e)
  have hga1 : GotsAt w.heap.size T' w1 v gs vs := hga.chg c0 (fun _ e => .inl e) hxr
  obtain ⟨m1, m2⟩ := hga1.more hT' (x := g) (u := .slice na nn nc) ⟨_, _, _, rfl⟩ hn (fun g hg' => by
    obtain ⟨a1, a2, a3⟩ := hnb g hg'
    simp at a2
    refine ⟨a1, fun e => ?_, a3⟩
    have := (hga.row.lt g e).2
    omega) ha hg hown hat
  have cw : Chg (fun _ => False) w w1 := (hch.trans c0 (fun b hb => .inr (hTB b hb)))
  have cw2 : Chg (fun _ => False) w w2 := cw.trans m2 (fun b hb => .inr (hga.row.lt b hb).1)
  refine ⟨gs.length + 1, S', gs ++ [g], _, T', hj, by simp, ?_, by simp, hwf'.1, by omega, ?_, m1, cw2, hTB'⟩
  · rw [List.take_succ_eq_append_getElem hj]
    exact runS_snoc _ _ _ _ _ _ _ hrun hst
  · exact hsp'.chg m2 (fun b hb => hga1.free b hb)

set_option maxHeartbeats 4000000 in
set_option maxRecDepth 100000 in
theorem script_any {w : World} {v : Value} {ss : List Stp} {gs0 : List Got} {S0 : Sts} (h : StepsArg w v ss) (hl : ss.length ≤ 100) (hs : ∀ s ∈ ss, s.name.size ≤ maxLen) (hr : runS Sts.empty ss = some (gs0, S0)) :
    Calls Try.prog 13 #[v] w (ScriptPost w gs0) := by
  rcases h with ⟨rfl, a, c, rfl⟩ | ⟨ab, ao, c, rfl, h0, hc⟩
  · cases hr
    go_enter Try.func13, Try.ntmps13
    go_wp2
    go_loopw [4, 12] (fun v i w' => ScRel w.heap.size w w.heap.size [] v i w') (fun _ i _ => 0)
    case atStart => exact script_start w []
    case round =>
      obtain ⟨j, S, gs, vs, T, hj, rfl, hrun, hgl, hwf, hhl, hsp, hga, hch, hTB⟩ := hrel
      obtain rfl : j = 0 := by simpa using hj
      obtain rfl : gs = [] := List.length_eq_zero_iff.1 hgl
      have HA := Lib.hid (And.intro hga hch)
      clear hga hrun hgl hch hsp hwf hhl hTB
      go_wp2
      go_ret
      exact ⟨HA.out.2, _, vs, T, rfl, HA.out.1⟩
  · obtain ⟨i0, hi, hz0, hz1, hz2⟩ := info_parts info53
    have hab : ab < w.heap.size := World.block_lt_of_cell? w _ (hc 0 h0).1
    have HC := Lib.hid hc
    have HS := Lib.hid hs
    have HRN := Lib.hid hr
    clear hc hs hr
    go_enter Try.func13, Try.ntmps13
    go_wp2
    go_loopw [4, 12] (fun v i w' => ScRel w.heap.size w w.heap.size ss v i w') (fun _ i _ => ss.length - (intOf i).toNat)
    case atStart => exact script_start w ss
    case round =>
      obtain ⟨j, S, gs, vs, T, hj, rfl, hrun, hgl, hwf, hhl, hsp, hga, hch, hTB⟩ := hrel
      subst hgl
      obtain ⟨va, vc, hv⟩ := row_shape hga.row
      subst hv
      have hwz := hch.size
      have HR := Lib.hid hrun
      have HG := Lib.hid hga
      have HW := Lib.hid hwf
      have HSP := Lib.hid hsp
      have HCH := Lib.hid hch
      have HTB := Lib.hid hTB
      clear hrun hga hwf hsp hch hTB
      by_cases hlt : gs.length < ss.length
      · obtain ⟨e0, e1, e2, e3⟩ := HC.out gs.length hlt
        have c0 := HCH.out.cell e0 (fun f => f)
        have c1 := HCH.out.cell e1 (fun f => f)
        have c2 := HCH.out.cell e2 (fun f => f)
        have c3 := HCH.out.cell e3 (fun f => f)
        have hab1 : ab < wr.heap.size := by omega
        have hsz : (ss[gs.length]).name.size ≤ maxLen := HS.out _ (List.getElem_mem hlt)
        have HSZ := Lib.hid hsz
        obtain ⟨gn, S', hst⟩ : ∃ gn S', stepS S ss[gs.length] = some (gn, S') := by
          obtain ⟨gj, Sj, g, S1, h1, h2⟩ := runS_take ss _ _ _ HRN.out gs.length hlt
          rw [HR.out] at h1
          cases h1
          exact ⟨g, S1, h2⟩
        obtain ⟨num, G⟩ := gn
        have HST := Lib.hid hst
        clear e0 e1 e2 e3 hsz hst
        go_wp2_with (first
          | (at_builtin; refine wpList_append_lies _ rfl _ _ 29 rfl w.heap.size 53 i0 (.agg #[.int .i64 0, .slice none 0 0]) 2 32 Try.underlying29 hi hz0 hz1 hz2 rfl (by omega) (.slice va gs.length vc) _ _ rfl ((HROW.out).alloc _) ⟨w1.heap.size, 0, none⟩ 1 1 [.int .i64 num, .slice na nn nc] rfl rfl (news_block w1 #[.int .i64 num, .slice na nn nc] 53 _ (by simp)) (by simp [Value.oneCell']) (by omega) (by unfold maxLen; omega) (by omega) (by simp; omega) _ rfl ?_; intro g1 cap1 w2 hown1 hgrow1 hat1 hlt1; have HOWN := Lib.hid hown1; have HGROW := Lib.hid hgrow1; have HAT := Lib.hid hat1; clear hown1 hgrow1 hat1)
          | (go_at_call 22; refine (take_any (B := w.heap.size) (T := T) (S := S) (HSP.out.chg (M := fun _ => False) (by repeat (first | exact Chg.refl _ _ | apply Chg.alloc | apply Chg.drew | apply Chg.drewN | (refine Chg.setCell ?_ (by first | exact .inl rfl | exact .inr (by first | (simp; done) | (simp; omega) | omega)) _) | fail)) (fun _ f => f.elim)) HW.out (by simp; omega) (by omega) ss[gs.length] HSZ.out HST.out).mono ?_; rintro e w1 ⟨hch1, na, nn, nc, T', rfl, hok⟩; have hw1 : wr.heap.size < w1.heap.size := (by have := hch1.size; simp at this; omega); have hrow1 : w1.ownsRow w.heap.size 53 2 (.slice va gs.length vc) gs.length ((List.range (gs.length * 2)).map (gotCells vs gs)) := (((Chg.refl _ wr).alloc _).trans hch1 (fun _ e => .inl e)).row HG.out.row (fun g hg e => e (HG.out.free g hg)); have HROW := Lib.hid hrow1; have HCH1 := Lib.hid hch1; have HOK := Lib.hid hok; clear hch1 hok hrow1))
        exact ⟨script_next hlt HR.out HST.out HW.out (by omega) HG.out HCH.out HTB.out HCH1.out ⟨T', HOK.out⟩ (by repeat (first | exact Chg.refl _ _ | apply Chg.alloc | apply Chg.drew | apply Chg.drewN | (refine Chg.setCell ?_ (by first | exact .inl rfl | exact .inr (by first | (simp; done) | (simp; omega) | omega)) _) | fail)) HGROW.out HOWN.out HAT.out, by simp [intOf]; omega⟩
      · go_wp2
        go_ret
        have e : gs.length = ss.length := by omega
        have e2 := HR.out
        rw [e, List.take_length, HRN.out] at e2
        cases e2
        exact ⟨HCH.out, _, vs, T, rfl, HG.out⟩
end Go.Proofs.Ytipmpeekfajlcaa
