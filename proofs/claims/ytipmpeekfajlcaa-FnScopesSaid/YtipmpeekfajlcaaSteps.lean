/- The walk of the reference over many steps: what it gives is what runS gives. -/
import Derived.Test.YtipmpeekfajlcaaStep2
namespace Go.Proofs.Ytipmpeekfajlcaa
open Go.RowKit

theorem info53 : (Try.prog.info? 53).map (fun i => (i.zero, i.size, i.bytes)) = some (some (.agg #[.int .i64 0, .slice none 0 0]), 2, 32) := by kernel_rfl

/-- The slice v holds the steps ss. -/
def StepsArg (w : World) (v : Value) (ss : List Stp) : Prop :=
  (ss = [] ∧ ∃ a c, v = .slice a 0 c) ∨
  ∃ ab ao c, v = .slice (some ⟨ab, ao, none⟩) ss.length c ∧ 0 < ss.length ∧ ∀ i (h : i < ss.length), w.cell? ⟨ab, ao + i * 4, none⟩ = some (.int .i64 ss[i].kind) ∧ w.cell? ⟨ab, ao + i * 4 + 1, none⟩ = some (.int .i64 ss[i].scope) ∧
    w.cell? ⟨ab, ao + i * 4 + 2, none⟩ = some (.string ss[i].name) ∧ w.cell? ⟨ab, ao + i * 4 + 3, none⟩ = some (.int .i64 ss[i].index)

/-- The cells of a list of gifts: two a gift. -/
def gotCells (vs : Nat → Value) (gs : List Got) (j : Nat) : Value :=
  if j % 2 = 0 then .int .i64 (gs.getD (j / 2) (0, [])).1 else vs (j / 2)

/-- The row v holds the gifts gs; its blocks and those of the names are in no part of M's. -/
structure GotsAt (B : Nat) (T : Nat → Nat) (w : World) (v : Value) (gs : List Got) (vs : Nat → Value) : Prop where
  row : w.ownsRow B 53 2 v gs.length ((List.range (gs.length * 2)).map (gotCells vs gs))
  free : ∀ g, v.ownBlock = some g → T g = 0
  names : ∀ i (h : i < gs.length), Reads w (vs i) (gs[i].2.map .string)
  shape : ∀ i, i < gs.length → ∃ a n c, vs i = .slice a n c
  apart : ∀ i, i < gs.length → ∀ g, (vs i).ownBlock = some g → T g = 0 ∧ v.ownBlock ≠ some g ∧ g < w.heap.size

theorem GotsAt.chg {B : Nat} {T T' : Nat → Nat} {w w' : World} {v : Value} {gs : List Got} {vs : Nat → Value} (h : GotsAt B T w v gs vs) {M : Nat → Prop} (k : Chg M w w') (hM : ∀ b, M b → T b ≠ 0 ∨ w.heap.size ≤ b) (hx : Ext T T' w) : GotsAt B T' w' v gs vs := by
  have hz : ∀ b, T b = 0 → b < w.heap.size → T' b = 0 := fun b hb hl => Decidable.byContradiction fun e => by
    rcases hx b e with h' | h'
    · exact h' hb
    · omega
  have hn : ∀ b, T b = 0 → b < w.heap.size → ¬ M b := fun b hb hl hm => by
    rcases hM b hm with h' | h'
    · exact h' hb
    · omega
  exact { row := k.row h.row (fun g hg => hn g (h.free g hg) (h.row.lt g hg).2)
          free := fun g hg => hz g (h.free g hg) (h.row.lt g hg).2
          names := fun i hi => (h.names i hi).chg k (fun g hg => hn g (h.apart i hi g hg).1 (h.apart i hi g hg).2.2)
          shape := h.shape
          apart := fun i hi g hg => ⟨hz g (h.apart i hi g hg).1 (h.apart i hi g hg).2.2, (h.apart i hi g hg).2.1, Nat.lt_of_lt_of_le (h.apart i hi g hg).2.2 k.size⟩ }

theorem gotCells_snoc (vs : Nat → Value) (gs : List Got) (x : Got) (u : Value) :
    (List.range ((gs ++ [x]).length * 2)).map (gotCells (fun i => if i = gs.length then u else vs i) (gs ++ [x])) = (List.range (gs.length * 2)).map (gotCells vs gs) ++ [.int .i64 x.1, u] := by
  have e : (gs ++ [x]).length * 2 = gs.length * 2 + 1 + 1 := by simp; omega
  rw [e, List.range_succ, List.range_succ, List.map_append, List.map_append, List.append_assoc]
  congr 1
  · apply List.map_congr_left
    intro j hj
    rw [List.mem_range] at hj
    unfold gotCells
    have h1 : j / 2 < gs.length := by omega
    have h2 : j / 2 ≠ gs.length := by omega
    split
    · rw [List.getD_eq_getElem?_getD, List.getD_eq_getElem?_getD, List.getElem?_append_left h1]
    · exact if_neg h2
  · have m1 : gs.length * 2 % 2 = 0 := by omega
    have m2 : (gs.length * 2 + 1) % 2 ≠ 0 := by omega
    have q1 : gs.length * 2 / 2 = gs.length := by omega
    have q2 : (gs.length * 2 + 1) / 2 = gs.length := by omega
    simp [gotCells, m1, q1, q2]

/-- A gift more. -/
theorem GotsAt.more {B : Nat} {T : Nat → Nat} {w wa w1 : World} {v : Value} {gs : List Got} {vs : Nat → Value} (h : GotsAt B T w v gs vs) (hT : ∀ b, T b ≠ 0 → b < w.heap.size) {x : Got} {u : Value} (hu : ∃ a n c, u = .slice a n c)
    (hun : Reads w u (x.2.map .string)) (hua : ∀ g, u.ownBlock = some g → T g = 0 ∧ v.ownBlock ≠ some g ∧ g < w.heap.size) (hc : Chg (fun _ => False) w wa) (hg : wa.grownBy w1 v.ownBlock) {g1 cap1 : Nat}
    (hown : w1.ownsRow B 53 2 (.slice (some ⟨g1, 0, none⟩) (gs.length + 1) cap1) (gs.length + 1) ((List.range (gs.length * 2)).map (gotCells vs gs) ++ [.int .i64 x.1, u])) (hat : v.ownBlock = some g1 ∨ g1 = wa.heap.size) :
    GotsAt B T w1 (.slice (some ⟨g1, 0, none⟩) (gs.length + 1) cap1) (gs ++ [x]) (fun i => if i = gs.length then u else vs i) ∧ Chg (fun b => v.ownBlock = some b) w w1 := by
  have hc1 : Chg (fun b => v.ownBlock = some b) w w1 := (hc.mono (fun _ f => f.elim)).grown hg (fun i hi => .inl hi)
  have hsz := hc.size
  have hT1 : T g1 = 0 := by
    rcases hat with h' | h'
    · exact h.free g1 h'
    · exact Decidable.byContradiction fun e => by have := hT g1 e; omega
  have hne : ∀ g, v.ownBlock ≠ some g → g < w.heap.size → (Value.slice (some ⟨g1, 0, none⟩) (gs.length + 1) cap1).ownBlock ≠ some g := fun g h1 h2 e => by
    have e' : g1 = g := by simpa [Value.ownBlock] using e
    subst e'
    rcases hat with h' | h'
    · exact h1 h'
    · omega
  refine ⟨{ row := ?_, free := fun g e => by cases e; exact hT1, names := ?_, shape := ?_, apart := ?_ }, hc1⟩
  · rw [gotCells_snoc]
    simpa using hown
  · intro i hi
    by_cases e : i = gs.length
    · subst e
      simp only [if_pos, List.getElem_append_right (Nat.le_refl _), Nat.sub_self, List.getElem_cons_zero]
      exact hun.chg hc1 (fun g hg' => (hua g hg').2.1)
    · have hi' : i < gs.length := by simp at hi; omega
      simp only [if_neg e, List.getElem_append_left hi']
      exact (h.names i hi').chg hc1 (fun g hg' => (h.apart i hi' g hg').2.1)
  · intro i hi
    by_cases e : i = gs.length
    · simp only [if_pos e]; exact hu
    · have hi' : i < gs.length := by simp at hi; omega
      simp only [if_neg e]; exact h.shape i hi'
  · intro i hi g hg'
    by_cases e : i = gs.length
    · simp only [if_pos e] at hg'
      obtain ⟨a1, a2, a3⟩ := hua g hg'
      exact ⟨a1, hne g a2 a3, Nat.lt_of_lt_of_le a3 hc1.size⟩
    · have hi' : i < gs.length := by simp at hi; omega
      simp only [if_neg e] at hg'
      obtain ⟨a1, a2, a3⟩ := h.apart i hi' g hg'
      exact ⟨a1, hne g a2 a3, Nat.lt_of_lt_of_le a3 hc1.size⟩

theorem runS_snoc : ∀ (ss : List Stp) (S S1 S2 : Sts) (s : Stp) (gs : List Got) (g : Got), runS S ss = some (gs, S1) → stepS S1 s = some (g, S2) → runS S (ss ++ [s]) = some (gs ++ [g], S2)
  | [], S, S1, S2, s, gs, g, h, e => by
    cases h
    simp [runS, e]
  | a :: r, S, S1, S2, s, gs, g, h, e => by
    simp only [runS] at h
    cases e1 : stepS S a with
    | none => rw [e1] at h; cases h
    | some p =>
      obtain ⟨g0, S0⟩ := p
      rw [e1] at h
      simp only at h
      cases e2 : runS S0 r with
      | none => rw [e2] at h; cases h
      | some q =>
        obtain ⟨gr, S3⟩ := q
        rw [e2] at h
        simp only [Option.some.injEq, Prod.mk.injEq] at h
        obtain ⟨rfl, rfl⟩ := h
        have := runS_snoc r S0 S3 S2 s gr g e2 e
        simp [runS, e1, this]

/-- Where the walk stands: j steps have been taken. -/
def StRel (B : Nat) (w : World) (r : Nat) (ss : List Stp) (v i : Value) (w' : World) : Prop :=
  ∃ (j : Nat) (S : Sts) (gs : List Got) (vs : Nat → Value) (T : Nat → Nat), j ≤ ss.length ∧ i = .int .i64 j ∧ runS Sts.empty (ss.take j) = some (gs, S) ∧ gs.length = j ∧ S.WF ∧ S.homes.length ≤ j ∧
    SpecAt B T w' r S ∧ GotsAt B T w' v gs vs ∧ Chg (fun _ => False) w w' ∧ ∀ b, T b ≠ 0 → B ≤ b

/-- What the reference gives. -/
def StepsPost (w : World) (ss : List Stp) (e : Ending) (w' : World) : Prop :=
  Chg (fun _ => False) w w' ∧ ∃ (v : Value) (ok : Bool), e = .returned (.tuple #[v, .bool ok]) ∧
    (ok = true → ∃ (gs : List Got) (S : Sts) (vs : Nat → Value) (T : Nat → Nat), runS Sts.empty ss = some (gs, S) ∧ gs.length = ss.length ∧ GotsAt w.heap.size T w' v gs vs)

theorem spec_empty (w : World) : SpecAt w.heap.size (upd (fun _ => 0) w.heap.size 1) ((w.alloc (.cells #[.slice none 0 0, .slice none 0 0] 50 (0, 0))).alloc (.cells #[] 53 (0, 0))) w.heap.size Sts.empty := by
  refine ⟨.slice none 0 0, .slice none 0 0, fun _ => .nilIface, fun _ => .nilIface, ?_⟩
  exact { top := (Below.heap_alloc _ _ _ (by simp)).trans (heap_alloc_new w _), tr := upd_self _ _ _, br := Nat.le_refl _
          lrow := ⟨by simp [Sts.empty], .inl ⟨rfl, rfl⟩⟩, tl := fun g e => (by cases e), hrow := ⟨by simp [Sts.empty], .inl ⟨rfl, rfl⟩⟩, th := fun g e => (by cases e)
          nrow := fun i hi => (by simp [Sts.empty] at hi), tn := fun i hi => (by simp [Sts.empty] at hi), orow := fun i hi => (by simp [Sts.empty] at hi), tob := fun i hi => (by simp [Sts.empty] at hi)
          fresh := fun b hb => by
            by_cases e : b = w.heap.size
            · subst e; simp; omega
            · rw [upd_other _ _ e] at hb; exact absurd rfl hb }

theorem steps_start (w : World) (ss : List Stp) : StRel w.heap.size w w.heap.size ss (.slice (some ⟨w.heap.size + 1, 0, none⟩) 0 0) (.int .i64 0) ((w.alloc (.cells #[.slice none 0 0, .slice none 0 0] 50 (0, 0))).alloc (.cells #[] 53 (0, 0))) := by
  refine ⟨0, Sts.empty, [], fun _ => .nilIface, _, Nat.zero_le _, rfl, rfl, rfl, Sts.empty_wf, Nat.le_refl _, spec_empty w, ?_, by repeat (first | exact Chg.refl _ _ | apply Chg.alloc | apply Chg.drew | apply Chg.drewN | (refine Chg.setCell ?_ (by first | exact .inl rfl | exact .inr (by first | (simp; done) | (simp; omega) | omega)) _) | fail), ?_⟩
  · have h := World.ownsRow_lit (base := w.heap.size) (e := 53) (size := 2) (w.alloc (.cells #[.slice none 0 0, .slice none 0 0] 50 (0, 0))) #[] 0 (by simp) (Nat.zero_le _) rfl
    refine { row := ?_, free := fun g e => ?_, names := fun i hi => (by cases hi), shape := fun i hi => (by cases hi), apart := fun i hi => (by cases hi) }
    · simpa using h
    · cases e
      exact upd_other _ _ (by simp)
  · intro b hb
    by_cases e : b = w.heap.size
    · omega
    · rw [upd_other _ _ e] at hb; exact absurd rfl hb

theorem bool_true {b : Bool} (h : (!b) = false) : b = true := by cases b with | true => rfl | false => cases h
theorem steps_next {w wr w1 wa w2 : World} {r g1 cap1 : Nat} {ss : List Stp} {S : Sts} {gs : List Got} {vs : Nat → Value} {T : Nat → Nat} {v : Value} {num : Int} {na : Option Addr} {nn nc : Nat} {o : Obj} (hj : gs.length < ss.length)
    (hrun : runS Sts.empty (ss.take gs.length) = some (gs, S)) (hwf : S.WF) (hhl : S.homes.length ≤ gs.length) (hga : GotsAt w.heap.size T wr v gs vs) (hch : Chg (fun _ => False) w wr) (hTB : ∀ b, T b ≠ 0 → w.heap.size ≤ b)
    (hch1 : Chg (fun b => T b ≠ 0) (wr.alloc o) w1) (hok : ∃ G S' T', stepS S ss[gs.length] = some ((num, G), S') ∧ SpecAt w.heap.size T' w1 r S' ∧ Ext T T' (wr.alloc o) ∧ Names (wr.alloc o) w1 T' (.slice na nn nc) G)
    (ha : Chg (fun _ => False) w1 wa) (hg : wa.grownBy w2 v.ownBlock) (hown : w2.ownsRow w.heap.size 53 2 (.slice (some ⟨g1, 0, none⟩) (gs.length + 1) cap1) (gs.length + 1) ((List.range (gs.length * 2)).map (gotCells vs gs) ++ [.int .i64 num, .slice na nn nc])) (hat : v.ownBlock = some g1 ∨ g1 = wa.heap.size) :
    StRel w.heap.size w r ss (.slice (some ⟨g1, 0, none⟩) (gs.length + 1) cap1) (.int .i64 ((gs.length : Int) + 1)) w2 := by
  obtain ⟨G, S', T', hst, hsp', hx, hn, hnb⟩ := hok
  have hwf' := stepS_wf hwf hst
  have z0 := hch.size
  have z1 : wr.heap.size + 1 ≤ w1.heap.size := by have := hch1.size; simpa using this
  have hxr : Ext T T' wr := fun b hb => (hx b hb).imp id (fun h => by simp at h; omega)
  have hTB' : ∀ b, T' b ≠ 0 → w.heap.size ≤ b := fun b hb => by
    rcases hxr b hb with h' | h'
    · exact hTB b h'
    · omega
  have hT' : ∀ b, T' b ≠ 0 → b < w1.heap.size := by obtain ⟨_, _, _, _, h'⟩ := hsp'; exact h'.fresh
  have c0 : Chg (fun b => T b ≠ 0) wr w1 := ((Chg.refl _ wr).alloc o).trans hch1 (fun _ e => .inl e)
  have hga1 : GotsAt w.heap.size T' w1 v gs vs := hga.chg c0 (fun _ e => .inl e) hxr
  obtain ⟨m1, m2⟩ := hga1.more hT' (x := (num, G)) (u := .slice na nn nc) ⟨_, _, _, rfl⟩ hn (fun g hg' => by
    obtain ⟨a1, a2, a3⟩ := hnb g hg'
    simp at a2
    refine ⟨a1, fun e => ?_, a3⟩
    have := (hga.row.lt g e).2
    omega) ha hg hown hat
  have cw : Chg (fun _ => False) w w1 := (hch.trans c0 (fun b hb => .inr (hTB b hb)))
  have cw2 : Chg (fun _ => False) w w2 := cw.trans m2 (fun b hb => .inr (hga.row.lt b hb).1)
  refine ⟨gs.length + 1, S', gs ++ [(num, G)], _, T', hj, by simp, ?_, by simp, hwf'.1, by omega, ?_, m1, cw2, hTB'⟩
  · rw [List.take_succ_eq_append_getElem hj]
    exact runS_snoc _ _ _ _ _ _ _ hrun hst
  · exact hsp'.chg m2 (fun b hb => hga1.free b hb)

set_option maxHeartbeats 4000000 in
set_option maxRecDepth 100000 in
theorem scopeSteps_any {w : World} {v : Value} {ss : List Stp} (h : StepsArg w v ss) (hl : ss.length ≤ 100) (hs : ∀ s ∈ ss, s.name.size ≤ maxLen) :
    Calls Try.prog 11 #[v] w (StepsPost w ss) := by
  rcases h with ⟨rfl, a, c, rfl⟩ | ⟨ab, ao, c, rfl, h0, hc⟩
  · go_enter Try.func11, Try.ntmps11
    go_wp2
    go_loopw [5, 15] (fun v i w' => StRel w.heap.size w w.heap.size [] v i w') (fun _ i _ => 0)
    case atStart => exact steps_start w []
    case round =>
      obtain ⟨j, S, gs, vs, T, hj, rfl, hrun, hgl, hwf, hhl, hsp, hga, hch, hTB⟩ := hrel
      obtain rfl : j = 0 := by simpa using hj
      have HA := Lib.hid (And.intro hga (And.intro hrun (And.intro hgl hch)))
      clear hga hrun hgl hch hsp hwf hhl hTB
      go_wp2
      refine bodyPost_ret (results_tmp2 rfl _ _ _) rfl ?_
      exact ⟨HA.out.2.2.2, _, _, rfl, fun _ => ⟨gs, S, vs, T, HA.out.2.1, HA.out.2.2.1, HA.out.1⟩⟩
  · obtain ⟨i0, hi, hz0, hz1, hz2⟩ := info_parts info53
    have hab : ab < w.heap.size := World.block_lt_of_cell? w _ (hc 0 h0).1
    have HC := Lib.hid hc
    have HS := Lib.hid hs
    clear hc hs
    go_enter Try.func11, Try.ntmps11
    go_wp2
    go_loopw [5, 15] (fun v i w' => StRel w.heap.size w w.heap.size ss v i w') (fun _ i _ => ss.length - (intOf i).toNat)
    case atStart => exact steps_start w ss
    case round =>
      obtain ⟨j, S, gs, vs, T, hj, rfl, hrun, hgl, hwf, hhl, hsp, hga, hch, hTB⟩ := hrel
      subst hgl
      obtain ⟨va, vc, hv⟩ := row_shape hga.row
      subst hv
      have hwz := hch.size
      have HR := Lib.hid hrun
      have HG := Lib.hid hga
      have HW := Lib.hid hwf
      have HSP := Lib.hid hsp
      have HCH := Lib.hid hch
      have HTB := Lib.hid hTB
      clear hrun hga hwf hsp hch hTB
      by_cases hlt : gs.length < ss.length
      · obtain ⟨e0, e1, e2, e3⟩ := HC.out gs.length hlt
        have c0 := HCH.out.cell e0 (fun f => f)
        have c1 := HCH.out.cell e1 (fun f => f)
        have c2 := HCH.out.cell e2 (fun f => f)
        have c3 := HCH.out.cell e3 (fun f => f)
        have hab1 : ab < wr.heap.size := by omega
        have hsz : (ss[gs.length]).name.size ≤ maxLen := HS.out _ (List.getElem_mem hlt)
        have HSZ := Lib.hid hsz
        clear e0 e1 e2 e3 hsz
        go_wp2_with (first
          | (at_builtin; refine wpList_append_lies _ rfl _ _ 29 rfl w.heap.size 53 i0 (.agg #[.int .i64 0, .slice none 0 0]) 2 32 Try.underlying29 hi hz0 hz1 hz2 rfl (by omega) (.slice va gs.length vc) _ _ rfl (((HROW.out).alloc _).alloc _) ⟨w1.heap.size + 1, 0, none⟩ 1 1 [.int .i64 num, .slice na nn nc] rfl rfl (news_block (w1.alloc _) #[.int .i64 num, .slice na nn nc] 53 _ (by simp)) (by simp [Value.oneCell']) (by omega) (by unfold maxLen; omega) (by omega) (by simp; omega) _ rfl ?_; intro g1 cap1 w2 hown1 hgrow1 hat1 hlt1; have HOWN := Lib.hid hown1; have HGROW := Lib.hid hgrow1; have HAT := Lib.hid hat1; clear hown1 hgrow1 hat1)
          | (go_at_call 21; refine (step_any (B := w.heap.size) (T := T) (S := S) (HSP.out.chg (M := fun _ => False) (by repeat (first | exact Chg.refl _ _ | apply Chg.alloc | apply Chg.drew | apply Chg.drewN | (refine Chg.setCell ?_ (by first | exact .inl rfl | exact .inr (by first | (simp; done) | (simp; omega) | omega)) _) | fail)) (fun _ f => f.elim)) HW.out (by simp; omega) (by omega) ss[gs.length] HSZ.out).mono ?_; rintro e w1 ⟨hch1, num, na, nn, nc, ok, rfl, hok⟩; have hw1 : wr.heap.size < w1.heap.size := (by have := hch1.size; simp at this; omega); have hrow1 : w1.ownsRow w.heap.size 53 2 (.slice va gs.length vc) gs.length ((List.range (gs.length * 2)).map (gotCells vs gs)) := (((Chg.refl _ wr).alloc _).trans hch1 (fun _ e => .inl e)).row HG.out.row (fun g hg e => e (HG.out.free g hg)); have HROW := Lib.hid hrow1; have HCH1 := Lib.hid hch1; have HOK := Lib.hid hok; clear hch1 hok hrow1))
        · refine bodyPost_ret (results_tmp2 rfl _ _ _) rfl ?_
          refine ⟨?_, _, _, rfl, fun e => by cases e⟩
          exact ((HCH.out.trans (((Chg.refl _ wr).alloc _).trans HCH1.out (fun _ e => .inl e)) (fun b hb => .inr (HTB.out b hb))).alloc _)
        · refine ⟨steps_next hlt HR.out HW.out (by omega) HG.out HCH.out HTB.out HCH1.out (HOK.out (bool_true (by assumption))) (by repeat (first | exact Chg.refl _ _ | apply Chg.alloc | apply Chg.drew | apply Chg.drewN | (refine Chg.setCell ?_ (by first | exact .inl rfl | exact .inr (by first | (simp; done) | (simp; omega) | omega)) _) | fail)) HGROW.out HOWN.out HAT.out, by simp [intOf]; omega⟩
      · go_wp2
        refine bodyPost_ret (results_tmp2 rfl _ _ _) rfl ?_
        have e : gs.length = ss.length := by omega
        refine ⟨HCH.out, _, _, rfl, fun _ => ⟨gs, S, vs, T, ?_, e, HG.out⟩⟩
        have := HR.out
        rw [e, List.take_length] at this
        exact this
end Go.Proofs.Ytipmpeekfajlcaa
