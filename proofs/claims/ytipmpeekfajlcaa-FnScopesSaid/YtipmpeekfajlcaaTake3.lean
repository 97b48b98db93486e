/- The walk of the program's take: a scope more. -/
import Derived.Test.YtipmpeekfajlcaaTake2
namespace Go.Proofs.Ytipmpeekfajlcaa
open Go.RowKit

section
variable {B : Nat} {T : Nat → Nat} {w : World} {r : Nat} {S : Sts} {la oa : Option Addr} {lc oc : Nat} {p : Pos}
theorem in_tag (h : ImplRep B T w r S la oa lc oc p) {k : Nat} (hk : k < S.regs.length) {b : Nat} (e : b = p.sb k ∨ (Value.slice (p.ka k) (S.kids k S.regs.length).length (p.kc k)).ownBlock = some b) : T b = 4 + 4 * k ∨ T b = 5 + 4 * k :=
  e.imp (fun e => by rw [e]; exact h.ts k hk) (fun e => h.tk k hk b e)
theorem in_own (h : ImplRep B T w r S la oa lc oc p) {k : Nat} (hk : k < S.regs.length) {b : Nat} (e : b = p.sb k ∨ (Value.slice (p.ka k) (S.kids k S.regs.length).length (p.kc k)).ownBlock = some b) : T b ≠ 0 := by
  have := in_tag h hk e
  omega
theorem in_far (h : ImplRep B T w r S la oa lc oc p) {k : Nat} (hk : k < S.regs.length) (e : r = p.sb k ∨ (Value.slice (p.ka k) (S.kids k S.regs.length).length (p.kc k)).ownBlock = some r) : False := by
  have := in_tag h hk e
  have := h.tr
  omega
theorem in_far2 (h : ImplRep B T w r S la oa lc oc p) {k : Nat} (hk : k < S.regs.length) {g : Nat} (e1 : (Value.slice la S.regs.length lc).ownBlock = some g) (e : g = p.sb k ∨ (Value.slice (p.ka k) (S.kids k S.regs.length).length (p.kc k)).ownBlock = some g) : False := by
  have := in_tag h hk e
  have := h.tl g e1
  omega
end

theorem take_end {B : Nat} {T : Nat → Nat} {w w1 w2 : World} {r : Nat} {S' : Sts} {x kd sc ix : Int} {nm : ByteArray} (hT : ∀ b, T b ≠ 0 → b < w.heap.size) (m : ∃ T', ImplAt B T' w1 r S' ∧ Chg (fun b => T b ≠ 0) (stW w kd sc ix nm) w1 ∧ Ext T T' (stW w kd sc ix nm))
    (hc : Chg (fun b => b = w.heap.size + 1) w1 w2) : TakePost B T w r (x, []) S' (.returned (.agg #[.int .i64 x, .slice none 0 0])) w2 := by
  obtain ⟨T', m1, m2, m3⟩ := m
  have n2 : T' (w.heap.size + 1) = 0 := by
    apply Decidable.byContradiction
    intro e
    rcases m3 _ e with h' | h'
    · have := hT _ h'; omega
    · simp at h'
      omega
  have c0 : Chg (fun b => T b ≠ 0) w (stW w kd sc ix nm) := by repeat (first | exact Chg.refl _ _ | apply Chg.alloc | apply Chg.drew | apply Chg.drewN | (refine Chg.setCell ?_ (by first | exact .inl rfl | exact .inr (by first | (simp; done) | (simp; omega) | omega)) _) | fail)
  refine ⟨(c0.trans m2 (fun _ e => .inl e)).trans hc (fun _ e => .inr (by omega)), none, 0, 0, T', rfl, m1.chg hc (fun b e => by rw [e]; exact n2), fun b hb => ?_, names_none _ _ _⟩
  rcases m3 b hb with h' | h'
  · exact .inl h'
  · simp at h'
    exact .inr (by omega)

set_option maxHeartbeats 4000000 in
set_option maxRecDepth 100000 in
theorem take_root {B : Nat} {T : Nat → Nat} {w : World} {r : Nat} {S : Sts} (h : ImplAt B T w r S) (hS : S.WF) (hB : B ≤ w.heap.size) (hlt : S.regs.length < 30) (ix : Int) (nm : ByteArray) :
    Calls Try.prog 22 #[.pointer (some ⟨r, 0, none⟩), stpV ⟨0, -1, nm, ix⟩] w (TakePost B T w r (0, []) ⟨S.regs ++ [⟨-1, [], []⟩], S.homes⟩) := by
  obtain ⟨la, oa, lc, oc, p, h⟩ := h
  have HR := Lib.hid h
  have HSW := Lib.hid hS
  have c0 := h.cell0
  have f0 : w.frozen? ⟨r, 0, none⟩ = false := frozen_of_row w r 0 _ 60 h.top
  have hrs : r < w.heap.size := World.block_lt_of_cell? w _ c0
  have hrs1 : r < w.heap.size + 1 := by omega
  have hrs2 : r < w.heap.size + 1 + 1 := by omega
  have HT : Hid (∀ b, T b ≠ 0 → b < w.heap.size) := Lib.hid (fun b e => (h.fresh b e).2)
  have HA : Hid (scopeA S p.sb (-1) = none) := by
    refine Lib.hid ?_
    unfold scopeA
    rw [if_neg (fun e => by have := e.1; omega)]
  obtain ⟨i0, hi, hz0, hz1, hz2⟩ := info_parts info37
  clear h hS
  unfold stpV
  go_enter Try.func22, Try.ntmps22
  go_wp2_with (go_at_call 31; refine (scope_any (HR.out.chg (M := fun _ => False) (by repeat (first | exact Chg.refl _ _ | apply Chg.alloc | apply Chg.drew | apply Chg.drewN | (refine Chg.setCell ?_ (by first | exact .inl rfl | exact .inr (by first | (simp; done) | (simp; omega) | omega)) _) | fail)) (fun _ f => f.elim)) _).mono ?_; rintro e w' ⟨rfl, rfl⟩; rw [HA.out])
  go_region_law (first
    | (refine step_append_lies _ (by rfl) (.tmp 19) (.tmp 22) 57 (by rfl) B 37 i0 (.pointer none) 1 8 Try.underlying57 hi hz0 hz1 hz2 (by rfl) (by omega) (.slice la S.regs.length lc) S.regs.length _ (by rfl) (Chg.row (M := fun _ => False) (by repeat (first | exact Chg.refl _ _ | apply Chg.alloc | apply Chg.drew | apply Chg.drewN | (refine Chg.setCell ?_ (by first | exact .inl rfl | exact .inr (by first | (simp; done) | (simp; omega) | omega)) _) | fail)) HR.out.lrow (fun _ _ f => f)) ⟨w.heap.size + 1 + 1 + 1, 0, none⟩ 1 1 [.pointer (some ⟨w.heap.size + 1 + 1, 0, none⟩)] (by rfl) (by rfl) (news_of_cell (by first | (go_simp; done) | fail)) (by simp [Value.oneCell']) (by omega) (by unfold maxLen; omega) (by omega) (by simp; omega) _ rfl ?_; intro g1 c1 w3 hown hgrow hat hlt3; have k1 : Chg (fun b => T b = 2) w w3 := Chg.grown (by repeat (first | exact Chg.refl _ _ | apply Chg.alloc | apply Chg.drew | apply Chg.drewN | (refine Chg.setCell ?_ (by first | exact .inl rfl | exact .inr (by first | (simp; done) | (simp; omega) | omega)) _) | fail)) hgrow (fun i e => .inl (HR.out.tl i e)); have k2 : Chg (fun b => T b ≠ 0) (stW w 0 (-1) ix nm) w3 := Chg.grown (by repeat (first | exact Chg.refl _ _ | apply Chg.alloc | apply Chg.drew | apply Chg.drewN | (refine Chg.setCell ?_ (by first | exact .inl rfl | exact .inr (by first | (simp; done) | (simp; omega) | omega)) _) | fail)) hgrow (fun i e => .inl (by rw [HR.out.tl i e]; decide)); have ht := k1.heapAt HR.out.top (by rw [HR.out.tr]; decide); have cr0 := cell_of_row w3 r 0 _ 60 (0, 0) ht; have fr0 := frozen_of_row w3 r 0 _ 60 ht; have ⟨c30, c31, c32, c33, c40, c41, f40, f41, hsz⟩ := step_cells 0 (-1) ix nm HT.out (Chg.refl _ _) k2; have HO := Lib.hid hown; have HG := Lib.hid hgrow; have HAT := Lib.hid hat; clear hown hgrow hat k1 k2 ht)
    | (go_simp; go_at_call 23; refine (newScope_root _).mono ?_; rintro e w' ⟨rfl, rfl⟩))
  all_goals
    have hN : ((stW w 0 (-1) ix nm).alloc (.cells (scCells (parA p.sb (-1)) none 0 0 0 none) 69 (0, 0))).heap[w.heap.size + 1 + 1]? = some (.cells (scCells (parA p.sb (-1)) none 0 0 0 none) 69 (0, 0)) := by
      have := heap_alloc_new (stW w 0 (-1) ix nm) (.cells (scCells (parA p.sb (-1)) none 0 0 0 none) 69 (0, 0))
      simpa using this
    have hR2 : ImplRep B T (stW w 0 (-1) ix nm) r S la oa lc oc p := HR.out.chg (M := fun _ => False) (by repeat (first | exact Chg.refl _ _ | apply Chg.alloc | apply Chg.drew | apply Chg.drewN | (refine Chg.setCell ?_ (by first | exact .inl rfl | exact .inr (by first | (simp; done) | (simp; omega) | omega)) _) | fail)) (fun _ f => f.elim)
    have HF := Lib.hid (hR2.moreScope HSW.out (.inl rfl) (sN := w.heap.size + 1 + 1) (gk := 0) (ck := 0) (num := 0) (by simp; omega) (by repeat (first | exact Chg.refl _ _ | apply Chg.alloc | apply Chg.drew | apply Chg.drewN | (refine Chg.setCell ?_ (by first | exact .inl rfl | exact .inr (by first | (simp; done) | (simp; omega) | omega)) _) | fail)) (by simp) hN (fun k e _ => by omega) (by repeat (first | exact Chg.refl _ _ | apply Chg.alloc | apply Chg.drew | apply Chg.drewN | (refine Chg.setCell ?_ (by first | exact .inl rfl | exact .inr (by first | (simp; done) | (simp; omega) | omega)) _) | fail)) HG.out HO.out HAT.out)
    clear hR2
    clear hN
    go_wp2
    refine bodyPost_ret_by (v := (.agg #[.int .i64 0, .slice none 0 0])) (by rw [results_cell1 (by rfl)]; go_simp) rfl ?_
    obtain ⟨T', p', m1, m2, m3⟩ := HF.out
    exact take_end HT.out ⟨T', ⟨_, _, _, _, _, m1⟩, m2, m3⟩ (by repeat (first | exact Chg.refl _ _ | apply Chg.alloc | apply Chg.drew | apply Chg.drewN | (refine Chg.setCell ?_ (by first | exact .inl rfl | exact .inr (by first | (simp; done) | (simp; omega) | omega)) _) | fail))

set_option maxHeartbeats 4000000 in
set_option maxRecDepth 100000 in
theorem take_in {B : Nat} {T : Nat → Nat} {w : World} {r : Nat} {S : Sts} (h : ImplAt B T w r S) (hS : S.WF) (hB : B ≤ w.heap.size) (hlt : S.regs.length < 30) (k : Nat) (hk : k < S.regs.length) (ix : Int) (nm : ByteArray) :
    Calls Try.prog 22 #[.pointer (some ⟨r, 0, none⟩), stpV ⟨0, k, nm, ix⟩] w (TakePost B T w r (0, []) ⟨S.regs ++ [⟨k, [], []⟩], S.homes⟩) := by
  obtain ⟨la, oa, lc, oc, p, h⟩ := h
  have HR := Lib.hid h
  have HSW := Lib.hid hS
  have c0 := h.cell0
  have f0 : w.frozen? ⟨r, 0, none⟩ = false := frozen_of_row w r 0 _ 60 h.top
  have hrs : r < w.heap.size := World.block_lt_of_cell? w _ c0
  have hrs1 : r < w.heap.size + 1 := by omega
  have hrs2 : r < w.heap.size + 1 + 1 := by omega
  have HT : Hid (∀ b, T b ≠ 0 → b < w.heap.size) := Lib.hid (fun b e => (h.fresh b e).2)
  have HA : Hid (scopeA S p.sb k = some ⟨p.sb k, 0, none⟩) := by
    refine Lib.hid ?_
    unfold scopeA
    rw [if_pos ⟨Int.natCast_nonneg k, by omega⟩, parA_nat]
  have hkl : (S.kids k S.regs.length).length ≤ 1000 := by
    have : (S.kids k S.regs.length).length ≤ (List.range S.regs.length).length := List.length_filter_le _ _
    simp at this
    omega
  have hts := h.ts k hk
  have hrsb : p.sb k ≠ r := fun e => by have := h.tr; rw [e] at hts; omega
  obtain ⟨i0, hi, hz0, hz1, hz2⟩ := info_parts info37
  clear h hS
  unfold stpV
  go_enter Try.func22, Try.ntmps22
  go_wp2_with (go_at_call 31; refine (scope_any (HR.out.chg (M := fun _ => False) (by repeat (first | exact Chg.refl _ _ | apply Chg.alloc | apply Chg.drew | apply Chg.drewN | (refine Chg.setCell ?_ (by first | exact .inl rfl | exact .inr (by first | (simp; done) | (simp; omega) | omega)) _) | fail)) (fun _ f => f.elim)) _).mono ?_; rintro e w' ⟨rfl, rfl⟩; rw [HA.out])
  go_region_law (first
    | (refine step_append_lies _ (by rfl) (.tmp 19) (.tmp 22) 57 (by rfl) B 37 i0 (.pointer none) 1 8 Try.underlying57 hi hz0 hz1 hz2 (by rfl) (by omega) (.slice la S.regs.length lc) S.regs.length _ (by rfl) (Chg.row (M := fun _ => False) (a := wn) (by repeat (first | exact Chg.refl _ _ | apply Chg.alloc | apply Chg.drew | apply Chg.drewN | (refine Chg.setCell ?_ (by first | exact .inl rfl | exact .inr (by first | (simp; done) | (simp; omega) | omega)) _) | fail)) HLN.out (fun _ _ f => f)) _ 1 1 [.pointer (some ⟨w.heap.size + 1 + 1, 0, none⟩)] (by rfl) (by rfl) (news_of_cell (by first | (go_simp; done) | fail)) (by simp [Value.oneCell']) (by omega) (by unfold maxLen; omega) (by omega) (by simp; omega) _ rfl ?_; intro g1 c1 w3 hown hgrow hat hlt3; have k1 : Chg (fun b => T b = 2) wn w3 := Chg.grown (by repeat (first | exact Chg.refl _ _ | apply Chg.alloc | apply Chg.drew | apply Chg.drewN | (refine Chg.setCell ?_ (by first | exact .inl rfl | exact .inr (by first | (simp; done) | (simp; omega) | omega)) _) | fail)) hgrow (fun i e => .inl (HR.out.tl i e)); have ht := k1.heapAt HTN.out (by rw [HR.out.tr]; decide); have cr0 := cell_of_row w3 r 0 _ 60 (0, 0) ht; have fr0 := frozen_of_row w3 r 0 _ 60 ht; have k2 : Chg (fun b => T b ≠ 0) (stW w 0 k ix nm) w3 := HKN.out.trans k1 (fun b e => .inl (by rw [e]; decide)); have ⟨c30, c31, c32, c33, c40, c41, f40, f41, hsz⟩ := step_cells 0 k ix nm HT.out (Chg.refl _ _) k2; have HO := Lib.hid hown; have HG := Lib.hid hgrow; have HAT := Lib.hid hat; clear hown hgrow hat k1 k2 ht)
    | (go_simp; go_at_call 23; refine (newScope_in B _ (p.sb k) (parA p.sb (S.reg k).par) (p.ka k) (S.kids k S.regs.length).length (p.kc k) (p.num k) (p.m k) _ (by simp; omega) hkl ((HR.out.chg (M := fun _ => False) (by repeat (first | exact Chg.refl _ _ | apply Chg.alloc | apply Chg.drew | apply Chg.drewN | (refine Chg.setCell ?_ (by first | exact .inl rfl | exact .inr (by first | (simp; done) | (simp; omega) | omega)) _) | fail)) (fun _ f => f.elim)).sc k hk) ((HR.out.chg (M := fun _ => False) (by repeat (first | exact Chg.refl _ _ | apply Chg.alloc | apply Chg.drew | apply Chg.drewN | (refine Chg.setCell ?_ (by first | exact .inl rfl | exact .inr (by first | (simp; done) | (simp; omega) | omega)) _) | fail)) (fun _ f => f.elim)).krow k hk) (fun e => by have := HR.out.tk k hk _ e; rw [hts] at this; omega)).mono ?_; rintro e wn ⟨rfl, gk, ck, q1, q2, q3, q4, q5⟩; have cn0 : wn.cell? ⟨r, 0, none⟩ = some (.slice la S.regs.length lc) := q5.cell (by go_simp) (fun e => in_far HR.out hk e); have hwn : w.heap.size + 1 + 1 < wn.heap.size := (by have := (Array.getElem?_eq_some_iff.1 q1).1; simpa using this); have hrn : r < wn.heap.size := (by omega); have htn := q5.heapAt (k := r) ((HR.out.chg (M := fun _ => False) (by repeat (first | exact Chg.refl _ _ | apply Chg.alloc | apply Chg.drew | apply Chg.drewN | (refine Chg.setCell ?_ (by first | exact .inl rfl | exact .inr (by first | (simp; done) | (simp; omega) | omega)) _) | fail)) (fun _ f => f.elim)).top) (fun e => in_far HR.out hk e); have hln := q5.row ((HR.out.chg (M := fun _ => False) (by repeat (first | exact Chg.refl _ _ | apply Chg.alloc | apply Chg.drew | apply Chg.drewN | (refine Chg.setCell ?_ (by first | exact .inl rfl | exact .inr (by first | (simp; done) | (simp; omega) | omega)) _) | fail)) (fun _ f => f.elim)).lrow) (fun g e1 e2 => in_far2 HR.out hk e1 e2); have hkn : Chg (fun b => T b ≠ 0) (stW w 0 k ix nm) wn := Chg.trans (M := fun b => T b ≠ 0) (by repeat (first | exact Chg.refl _ _ | apply Chg.alloc | apply Chg.drew | apply Chg.drewN | (refine Chg.setCell ?_ (by first | exact .inl rfl | exact .inr (by first | (simp; done) | (simp; omega) | omega)) _) | fail)) (q5.mono (M' := fun b => T b ≠ 0) (fun b e => .inl (in_own HR.out hk e))) (fun _ e => .inl e); have HTN := Lib.hid htn; have HLN := Lib.hid hln; have HKN := Lib.hid hkn; have HQ := Lib.hid (And.intro q1 (And.intro q2 (And.intro q3 (And.intro q4 q5)))); clear q1 q2 q3 q4 q5 htn hln hkn))
  all_goals
    obtain ⟨q1, q2, q3, q4, q5⟩ := HQ.out
    have hR2 : ImplRep B T (stW w 0 k ix nm) r S la oa lc oc p := HR.out.chg (M := fun _ => False) (by repeat (first | exact Chg.refl _ _ | apply Chg.alloc | apply Chg.drew | apply Chg.drewN | (refine Chg.setCell ?_ (by first | exact .inl rfl | exact .inr (by first | (simp; done) | (simp; omega) | omega)) _) | fail)) (fun _ f => f.elim)
    have hA : Chg (fun b => ∃ k' : Nat, (k : Int) = (k' : Int) ∧ k' < S.regs.length ∧ (T b = 4 + 4 * k' ∨ T b = 5 + 4 * k')) (stW w 0 k ix nm) wn :=
      Chg.trans (M := fun b => ∃ k' : Nat, (k : Int) = (k' : Int) ∧ k' < S.regs.length ∧ (T b = 4 + 4 * k' ∨ T b = 5 + 4 * k')) (by repeat (first | exact Chg.refl _ _ | apply Chg.alloc | apply Chg.drew | apply Chg.drewN | (refine Chg.setCell ?_ (by first | exact .inl rfl | exact .inr (by first | (simp; done) | (simp; omega) | omega)) _) | fail)) (q5.mono (fun b e => .inl ⟨k, rfl, hk, in_tag HR.out hk e⟩)) (fun _ e => .inl e)
    have hN : wn.heap[w.heap.size + 1 + 1]? = some (.cells (scCells (parA p.sb k) none 0 0 (((S.kids k S.regs.length).length : Nat) + 1 : Int) none) 69 (0, 0)) := by
      rw [parA_nat]
      simpa using q1
    have q3' : wn.ownsRow B 37 1 (.slice (some ⟨gk, 0, none⟩) ((S.kids k S.regs.length).length + 1) ck) ((S.kids k S.regs.length).length + 1) (((S.kids k S.regs.length).map fun c => ptrV (p.sb c)) ++ [ptrV (w.heap.size + 1 + 1)]) := by simpa using q3
    have q4' : (Value.slice (p.ka k) (S.kids k S.regs.length).length (p.kc k)).ownBlock = some gk ∨ w.heap.size + 1 + 1 < gk := by simpa using q4
    have q4t : (T gk = 5 + 4 * k ∨ (stW w 0 k ix nm).heap.size ≤ gk) ∧ gk ≠ w.heap.size + 1 + 1 := by
      rcases q4' with e | e
      · have e1 := HR.out.tk k hk gk e
        have e2 := HT.out gk (by rw [e1]; omega)
        exact ⟨.inl e1, by omega⟩
      · exact ⟨.inr (by simp; omega), by omega⟩
    have HF := Lib.hid (hR2.moreScope HSW.out (.inr ⟨Int.natCast_nonneg k, by omega⟩) (sN := w.heap.size + 1 + 1) (gk := gk) (ck := ck) (by simp; omega) hA (by simp) hN (fun k' e _ => by
      obtain rfl : k' = k := by omega
      exact ⟨q2, q3', q4t⟩) (by repeat (first | exact Chg.refl _ _ | apply Chg.alloc | apply Chg.drew | apply Chg.drewN | (refine Chg.setCell ?_ (by first | exact .inl rfl | exact .inr (by first | (simp; done) | (simp; omega) | omega)) _) | fail)) HG.out HO.out HAT.out)
    clear hR2 hA hN q3' q4' q4t q1 q2 q3 q4 q5
    go_wp2
    refine bodyPost_ret_by (v := (.agg #[.int .i64 0, .slice none 0 0])) (by rw [results_cell1 (by rfl)]; go_simp) rfl ?_
    obtain ⟨T', p', m1, m2, m3⟩ := HF.out
    exact take_end HT.out ⟨T', ⟨_, _, _, _, _, m1⟩, m2, m3⟩ (by repeat (first | exact Chg.refl _ _ | apply Chg.alloc | apply Chg.drew | apply Chg.drewN | (refine Chg.setCell ?_ (by first | exact .inl rfl | exact .inr (by first | (simp; done) | (simp; omega) | omega)) _) | fail))
end Go.Proofs.Ytipmpeekfajlcaa
