/- The walk of the reference's step: what each kind of step gives. -/
import Derived.Test.YtipmpeekfajlcaaKids
import Derived.Test.YtipmpeekfajlcaaSorted
import Derived.Test.YtipmpeekfajlcaaInserted
import Derived.BigQuiet
import Derived.Deep.QuietTactic
import Derived.StillTailTactics
import Derived.Deep.RegionHeld3
import Derived.Laws.ResultCell
import Derived.Laws.NewBlocks
namespace Go.Proofs.Ytipmpeekfajlcaa
open Go.RowKit

/-- The names that a step gives: a row of their own that no part owns. -/
def Names (w w' : World) (T : Nat → Nat) (v : Value) (G : List ByteArray) : Prop :=
  Reads w' v (G.map .string) ∧ ∀ g, v.ownBlock = some g → T g = 0 ∧ w.heap.size ≤ g ∧ g < w'.heap.size

/-- What a step gives. -/
def StepPost (B : Nat) (T : Nat → Nat) (w : World) (r : Nat) (S : Sts) (s : Stp) (e : Ending) (w' : World) : Prop :=
  Chg (fun b => T b ≠ 0) w w' ∧ ∃ (num : Int) (a : Option Addr) (n c : Nat) (ok : Bool), e = .returned (.tuple #[.agg #[.int .i64 num, .slice a n c], .bool ok]) ∧
    (ok = true → ∃ G S' T', stepS S s = some ((num, G), S') ∧ SpecAt B T' w' r S' ∧ Ext T T' w ∧ Names w w' T' (.slice a n c) G)

def stpV (s : Stp) : Value := .agg #[.int .i64 s.kind, .int .i64 s.scope, .string s.name, .int .i64 s.index]

theorem names_none (w w' : World) (T : Nat → Nat) : Names w w' T (.slice none 0 0) [] := ⟨.inl ⟨rfl, _, _, rfl⟩, fun g e => by cases e⟩

theorem step_not {B : Nat} {T : Nat → Nat} {w w' : World} {r : Nat} {S : Sts} {s : Stp} (h : Chg (fun b => T b ≠ 0) w w') : StepPost B T w r S s (.returned (.tuple #[.agg #[.int .i64 0, .slice none 0 0], .bool false])) w' :=
  ⟨h, _, _, _, _, _, rfl, fun e => by cases e⟩
theorem step_num {B : Nat} {T : Nat → Nat} {w w' : World} {r : Nat} {S : Sts} {s : Stp} {x : Int} {ok : Bool} (h : SpecAt B T w r S) (hc : Chg (fun _ => False) w w') (e : stepS S s = some ((x, []), S)) : StepPost B T w r S s (.returned (.tuple #[.agg #[.int .i64 x, .slice none 0 0], .bool ok])) w' :=
  ⟨hc.mono (fun _ f => f.elim), _, _, _, _, _, rfl, fun _ => ⟨[], S, T, e, h.chg hc (fun _ f => f.elim), Ext.refl _ _, names_none _ _ _⟩⟩

theorem Chg.drewN {M : Nat → Prop} {a b : World} (h : Chg M a b) (n : Nat) : Chg M a (b.drewN n) := ⟨h.os, h.tape, h.output, h.size, h.block⟩

theorem getD_some {α : Type} (xs : List α) (i : Nat) (d : α) (h : i < xs.length) : xs[i]? = some (xs.getD i d) := by
  rw [List.getD_eq_getElem?_getD, List.getElem?_eq_getElem h]; rfl

set_option maxHeartbeats 4000000 in
set_option maxRecDepth 100000 in
theorem step_home {B : Nat} {T : Nat → Nat} {w : World} {r : Nat} {S : Sts} (h : SpecAt B T w r S) (sc ix : Int) (nm : ByteArray) :
    Calls Try.prog 21 #[.pointer (some ⟨r, 0, none⟩), stpV ⟨8, sc, nm, ix⟩] w (StepPost B T w r S ⟨8, sc, nm, ix⟩) := by
  have HS := Lib.hid h
  obtain ⟨lv, hv, nv, ov, h⟩ := h
  obtain ⟨a, cap, rfl⟩ := row_shape h.hrow
  have c1 := h.cell1
  have hrs : r < w.heap.size := h.fresh r (by rw [h.tr]; decide)
  have HR := Lib.hid h.hrow
  unfold stpV
  by_cases h0 : ix < 0
  · have d0 : decide (ix < 0) = true := decide_eq_true h0
    clear h h0
    go_enter Try.func21, Try.ntmps21
    go_wp2
    go_quiet (fail)
    go_wp2
    refine bodyPost_ret_by (v := (.tuple #[.agg #[.int .i64 0, .slice none 0 0], .bool false])) (by rw [results_cell_tmp (by rfl)]; go_simp) rfl ?_
    exact step_not (by repeat (first | exact Chg.refl _ _ | apply Chg.alloc | apply Chg.drew | apply Chg.drewN | (refine Chg.setCell ?_ (by first | exact .inl rfl | exact .inr (by first | (simp; done) | (simp; omega) | omega)) _) | fail))
  · have d0 : decide (ix < 0) = false := decide_eq_false h0
    by_cases h1 : ix < (S.homes.length : Int)
    · have d1 : decide ((S.homes.length : Int) ≤ ix) = false := decide_eq_false (by omega)
      obtain ⟨i, rfl⟩ : ∃ i : Nat, ix = (i : Int) := ⟨ix.toNat, by omega⟩
      have hi : i < S.homes.length := by omega
      have hi2 : (i : Int) < (S.homes.length : Int) := h1
      have hi0 : (0 : Int) ≤ (i : Int) := Int.natCast_nonneg i
      obtain ⟨g, cap', e, _, hgs⟩ := h.hrow.form (by omega)
      cases e
      have c2 : w.cell? ⟨g, i, none⟩ = some (.int .i64 (S.homes.getD i 0)) := by
        rw [h.hrow.cellAt i (by omega), List.getElem?_map, getD_some _ _ 0 hi]; rfl
      have HE : Hid (stepS S ⟨8, sc, nm, i⟩ = some ((S.homes.getD i 0, []), S)) := by
        refine Lib.hid ?_
        unfold stepS
        rw [if_neg (by simp), if_pos rfl, if_pos ⟨hi0, h1⟩]
        rfl
      generalize S.homes.getD i 0 = x at *
      clear h h0 h1
      go_enter Try.func21, Try.ntmps21
      go_wp2
      go_quiet (fail)
      go_wp2
      go_region
      go_wp2
      refine bodyPost_ret_by (v := (.tuple #[.agg #[.int .i64 x, .slice none 0 0], .bool true])) (by rw [results_cell_tmp (by rfl)]; go_simp) rfl ?_
      exact step_num HS.out (by repeat (first | exact Chg.refl _ _ | apply Chg.alloc | apply Chg.drew | apply Chg.drewN | (refine Chg.setCell ?_ (by first | exact .inl rfl | exact .inr (by first | (simp; done) | (simp; omega) | omega)) _) | fail)) HE.out
    · have d1 : decide ((S.homes.length : Int) ≤ ix) = true := decide_eq_true (by omega)
      clear h h0 h1
      go_enter Try.func21, Try.ntmps21
      go_wp2
      go_quiet (fail)
      go_wp2
      refine bodyPost_ret_by (v := (.tuple #[.agg #[.int .i64 0, .slice none 0 0], .bool false])) (by rw [results_cell_tmp (by rfl)]; go_simp) rfl ?_
      exact step_not (by repeat (first | exact Chg.refl _ _ | apply Chg.alloc | apply Chg.drew | apply Chg.drewN | (refine Chg.setCell ?_ (by first | exact .inl rfl | exact .inr (by first | (simp; done) | (simp; omega) | omega)) _) | fail))

/-- The world behind the step's first region. -/
abbrev stW (w : World) (kd sc ix : Int) (nm : ByteArray) : World := (w.alloc (.cells #[.int .i64 kd, .int .i64 sc, .string nm, .int .i64 ix] 44 (0, 0))).alloc (.cells #[.int .i64 0, .slice none 0 0] 53 (0, 0))

/-- The two blocks of the step's own behind a call. -/
theorem step_cells {T : Nat → Nat} {w wc w1 : World} (kd sc ix : Int) (nm : ByteArray) (hT : ∀ b, T b ≠ 0 → b < w.heap.size) (h0 : Chg (fun _ => False) (stW w kd sc ix nm) wc) (h : Chg (fun b => T b ≠ 0) wc w1) :
    w1.cell? ⟨w.heap.size, 0, none⟩ = some (.int .i64 kd) ∧ w1.cell? ⟨w.heap.size, 1, none⟩ = some (.int .i64 sc) ∧ w1.cell? ⟨w.heap.size, 2, none⟩ = some (.string nm) ∧ w1.cell? ⟨w.heap.size, 3, none⟩ = some (.int .i64 ix) ∧
      w1.cell? ⟨w.heap.size + 1, 0, none⟩ = some (.int .i64 0) ∧ w1.cell? ⟨w.heap.size + 1, 1, none⟩ = some (.slice none 0 0) ∧ w1.frozen? ⟨w.heap.size + 1, 0, none⟩ = false ∧ w1.frozen? ⟨w.heap.size + 1, 1, none⟩ = false ∧ w.heap.size + 1 < w1.heap.size := by
  have e1 : (stW w kd sc ix nm).heap[w.heap.size]? = some (.cells #[.int .i64 kd, .int .i64 sc, .string nm, .int .i64 ix] 44 (0, 0)) := (Below.heap_alloc _ _ _ (by simp)).trans (heap_alloc_new w _)
  have e2 : (stW w kd sc ix nm).heap[w.heap.size + 1]? = some (.cells #[.int .i64 0, .slice none 0 0] 53 (0, 0)) := by
    have := heap_alloc_new (w.alloc (.cells #[.int .i64 kd, .int .i64 sc, .string nm, .int .i64 ix] 44 (0, 0))) (.cells #[.int .i64 0, .slice none 0 0] 53 (0, 0))
    simpa using this
  have n1 : ¬ T w.heap.size ≠ 0 := fun e => by have := hT _ e; omega
  have n2 : ¬ T (w.heap.size + 1) ≠ 0 := fun e => by have := hT _ e; omega
  have h1 := h.heapAt (h0.heapAt e1 (fun f => f)) n1
  have h2 := h.heapAt (h0.heapAt e2 (fun f => f)) n2
  have z : w.heap.size + 1 < w1.heap.size := (Array.getElem?_eq_some_iff.1 h2).1
  exact ⟨cell_of_row w1 _ 0 _ 44 (0, 0) h1, cell_of_row w1 _ 1 _ 44 (0, 0) h1, cell_of_row w1 _ 2 _ 44 (0, 0) h1, cell_of_row w1 _ 3 _ 44 (0, 0) h1, cell_of_row w1 _ 0 _ 53 (0, 0) h2, cell_of_row w1 _ 1 _ 53 (0, 0) h2, frozen_of_row w1 _ 0 _ 53 h2, frozen_of_row w1 _ 1 _ 53 h2, z⟩

theorem step_set {B : Nat} {T T' : Nat → Nat} {w wc w1 w2 : World} {r : Nat} {S S' : Sts} {s : Stp} {x : Int} {ok : Bool} (kd sc ix : Int) (nm : ByteArray) (hT : ∀ b, T b ≠ 0 → b < w.heap.size)
    (h0 : Chg (fun _ => False) (stW w kd sc ix nm) wc) (h : Chg (fun b => T b ≠ 0) wc w1) (hx : Ext T T' wc) (hs : SpecAt B T' w1 r S') (hc : Chg (fun b => b = w.heap.size + 1) w1 w2)
    (e : ok = true → stepS S s = some ((x, []), S')) : StepPost B T w r S s (.returned (.tuple #[.agg #[.int .i64 x, .slice none 0 0], .bool ok])) w2 := by
  have c1 : Chg (fun b => T b ≠ 0) w wc := ((((Chg.refl (fun _ => False) w).alloc _).alloc _).trans h0 (fun _ f => f.elim)).mono (fun _ f => f.elim)
  have z : w.heap.size + 2 ≤ wc.heap.size := by have := h0.size; simp at this; omega
  have n2 : T' (w.heap.size + 1) = 0 := by
    apply Decidable.byContradiction
    intro e
    rcases hx _ e with h' | h'
    · have := hT _ h'; omega
    · omega
  refine ⟨(c1.trans h (fun _ e => .inl e)).trans hc (fun _ e => .inr (by omega)), _, _, _, _, _, rfl, fun e' => ⟨[], S', T', e e', hs.chg hc (fun b hb => by rw [hb]; exact n2), fun b hb => ?_, names_none _ _ _⟩⟩
  rcases hx b hb with h' | h'
  · exact .inl h'
  · exact .inr (by omega)

theorem step_unset {B : Nat} {T : Nat → Nat} {w wc w1 w2 : World} {r : Nat} {S : Sts} {s : Stp} (kd sc ix : Int) (nm : ByteArray)
    (h0 : Chg (fun _ => False) (stW w kd sc ix nm) wc) (h : Chg (fun b => T b ≠ 0) wc w1) (hc : Chg (fun b => b = w.heap.size + 1) w1 w2) : StepPost B T w r S s (.returned (.tuple #[.agg #[.int .i64 0, .slice none 0 0], .bool false])) w2 := by
  have c1 : Chg (fun b => T b ≠ 0) w wc := ((((Chg.refl (fun _ => False) w).alloc _).alloc _).trans h0 (fun _ f => f.elim)).mono (fun _ f => f.elim)
  exact step_not ((c1.trans h (fun _ e => .inl e)).trans hc (fun _ e => .inr (by omega)))

theorem step_list {B : Nat} {T : Nat → Nat} {w wc w1 w2 : World} {r : Nat} {S : Sts} {s : Stp} {a : Option Addr} {n c : Nat} {G : List ByteArray} (kd sc ix : Int) (nm : ByteArray) (hT : ∀ b, T b ≠ 0 → b < w.heap.size) (hs : SpecAt B T w r S)
    (h0 : Chg (fun _ => False) (stW w kd sc ix nm) wc) (h : Chg (fun _ => False) wc w1) (hrow : w1.ownsRow wc.heap.size 9 1 (.slice a n c) n (G.map .string)) (hc : Chg (fun b => b = w.heap.size + 1) w1 w2)
    (e : stepS S s = some ((0, G), S)) : StepPost B T w r S s (.returned (.tuple #[.agg #[.int .i64 0, .slice a n c], .bool true])) w2 := by
  have c1 : Chg (fun _ => False) w wc := (((Chg.refl (fun _ => False) w).alloc _).alloc _).trans h0 (fun _ f => f.elim)
  have z : w.heap.size + 2 ≤ wc.heap.size := by have := h0.size; simp at this; omega
  have c2 : Chg (fun _ => False) w w2 := (c1.trans h (fun _ f => f.elim)).trans hc (fun _ e => .inr (by omega))
  refine ⟨c2.mono (fun _ f => f.elim), _, _, _, _, _, rfl, fun _ => ⟨G, S, T, e, hs.chg c2 (fun _ f => f.elim), Ext.refl _ _, (reads_of_row hrow).chg hc (fun g hg e => ?_), fun g hg => ?_⟩⟩
  · have := (hrow.lt g hg).1
    omega
  · have h1 := (hrow.lt g hg).1
    have h2 := (hrow.lt g hg).2
    refine ⟨Decidable.byContradiction fun e => ?_, by omega, Nat.lt_of_lt_of_le h2 hc.size⟩
    have := hT g e
    omega

set_option maxHeartbeats 4000000 in
set_option maxRecDepth 100000 in
theorem step_made {B : Nat} {T : Nat → Nat} {w : World} {r : Nat} {S : Sts} (h : SpecAt B T w r S) (hB : B ≤ w.heap.size) (sc ix : Int) (nm : ByteArray) :
    Calls Try.prog 21 #[.pointer (some ⟨r, 0, none⟩), stpV ⟨0, sc, nm, ix⟩] w (StepPost B T w r S ⟨0, sc, nm, ix⟩) := by
  have HS := Lib.hid h
  have hT : ∀ b, T b ≠ 0 → b < w.heap.size := by obtain ⟨_, _, _, _, h'⟩ := h; exact h'.fresh
  have HT := Lib.hid hT
  clear h hT
  unfold stpV
  by_cases hc : (sc = -1 ∨ S.has sc) ∧ S.regs.length < 30
  · have HC := Lib.hid hc
    clear hc
    go_enter Try.func21, Try.ntmps21
    go_wp2_with (go_at_call 25; refine (made_any (B := B) (T := T) (S := S) (HS.out.chg (M := fun _ => False) (by repeat (first | exact Chg.refl _ _ | apply Chg.alloc | apply Chg.drew | apply Chg.drewN | (refine Chg.setCell ?_ (by first | exact .inl rfl | exact .inr (by first | (simp; done) | (simp; omega) | omega)) _) | fail)) (fun _ f => f.elim)) (by simp; omega) 0 sc ix nm HC.out.1 HC.out.2).mono ?_; rintro e w1 ⟨rfl, T', hsp, hch, hext⟩; have ⟨c30, c31, c32, c33, c40, c41, f40, f41, hsz⟩ := step_cells 0 sc ix nm HT.out (by repeat (first | exact Chg.refl _ _ | apply Chg.alloc | apply Chg.drew | apply Chg.drewN | (refine Chg.setCell ?_ (by first | exact .inl rfl | exact .inr (by first | (simp; done) | (simp; omega) | omega)) _) | fail)) hch; have HSP := Lib.hid hsp; have HCH := Lib.hid hch; have HX := Lib.hid hext; clear hsp hch hext)
    refine bodyPost_ret_by (v := (.tuple #[.agg #[.int .i64 0, .slice none 0 0], .bool true])) (by rw [results_cell_tmp (by rfl)]; go_simp) rfl ?_
    refine step_set 0 sc ix nm HT.out (by repeat (first | exact Chg.refl _ _ | apply Chg.alloc | apply Chg.drew | apply Chg.drewN | (refine Chg.setCell ?_ (by first | exact .inl rfl | exact .inr (by first | (simp; done) | (simp; omega) | omega)) _) | fail)) HCH.out HX.out HSP.out (by repeat (first | exact Chg.refl _ _ | apply Chg.alloc | apply Chg.drew | apply Chg.drewN | (refine Chg.setCell ?_ (by first | exact .inl rfl | exact .inr (by first | (simp; done) | (simp; omega) | omega)) _) | fail)) (fun _ => ?_)
    unfold stepS
    rw [if_pos rfl, if_pos HC.out]
  · have HC := Lib.hid hc
    clear hc
    go_enter Try.func21, Try.ntmps21
    go_wp2_with (go_at_call 25; refine (made_not (B := B) (T := T) (S := S) (HS.out.chg (M := fun _ => False) (by repeat (first | exact Chg.refl _ _ | apply Chg.alloc | apply Chg.drew | apply Chg.drewN | (refine Chg.setCell ?_ (by first | exact .inl rfl | exact .inr (by first | (simp; done) | (simp; omega) | omega)) _) | fail)) (fun _ f => f.elim)) 0 sc ix nm HC.out).mono ?_; rintro e w1 ⟨rfl, hch0⟩; have hch : Chg (fun b => T b ≠ 0) _ w1 := hch0.mono (fun _ f => f.elim); have ⟨c30, c31, c32, c33, c40, c41, f40, f41, hsz⟩ := step_cells 0 sc ix nm HT.out (by repeat (first | exact Chg.refl _ _ | apply Chg.alloc | apply Chg.drew | apply Chg.drewN | (refine Chg.setCell ?_ (by first | exact .inl rfl | exact .inr (by first | (simp; done) | (simp; omega) | omega)) _) | fail)) hch; have HCH := Lib.hid hch; clear hch0 hch)
    refine bodyPost_ret_by (v := (.tuple #[.agg #[.int .i64 0, .slice none 0 0], .bool false])) (by rw [results_cell_tmp (by rfl)]; go_simp) rfl ?_
    exact step_unset 0 sc ix nm (by repeat (first | exact Chg.refl _ _ | apply Chg.alloc | apply Chg.drew | apply Chg.drewN | (refine Chg.setCell ?_ (by first | exact .inl rfl | exact .inr (by first | (simp; done) | (simp; omega) | omega)) _) | fail)) HCH.out (by repeat (first | exact Chg.refl _ _ | apply Chg.alloc | apply Chg.drew | apply Chg.drewN | (refine Chg.setCell ?_ (by first | exact .inl rfl | exact .inr (by first | (simp; done) | (simp; omega) | omega)) _) | fail))

set_option maxHeartbeats 4000000 in
set_option maxRecDepth 100000 in
theorem step_no {B : Nat} {T : Nat → Nat} {w : World} {r : Nat} {S : Sts} (h : SpecAt B T w r S) (kd sc ix : Int) (nm : ByteArray) (h0 : kd ≠ 0) (h8 : kd ≠ 8) (hh : ¬ S.has sc) :
    Calls Try.prog 21 #[.pointer (some ⟨r, 0, none⟩), stpV ⟨kd, sc, nm, ix⟩] w (StepPost B T w r S ⟨kd, sc, nm, ix⟩) := by
  have HS := Lib.hid h
  have HH : Hid (hasB S sc = false) := Lib.hid (decide_eq_false hh)
  have hk0 : (kd == 0) = false := beq_eq_false_iff_ne.mpr h0
  have hk8 : (kd == 8) = false := beq_eq_false_iff_ne.mpr h8
  clear h h0 h8 hh
  unfold stpV
  go_enter Try.func21, Try.ntmps21
  go_wp2_with (go_at_call 26; refine (has_any (HS.out.chg (M := fun _ => False) (by repeat (first | exact Chg.refl _ _ | apply Chg.alloc | apply Chg.drew | apply Chg.drewN | (refine Chg.setCell ?_ (by first | exact .inl rfl | exact .inr (by first | (simp; done) | (simp; omega) | omega)) _) | fail)) (fun _ f => f.elim)) sc).mono ?_; rintro e w' ⟨rfl, rfl⟩; rw [HH.out])
  refine bodyPost_ret_by (v := (.tuple #[.agg #[.int .i64 0, .slice none 0 0], .bool false])) (by rw [results_cell_tmp (by rfl)]; go_simp) rfl ?_
  exact step_not (by repeat (first | exact Chg.refl _ _ | apply Chg.alloc | apply Chg.drew | apply Chg.drewN | (refine Chg.setCell ?_ (by first | exact .inl rfl | exact .inr (by first | (simp; done) | (simp; omega) | omega)) _) | fail))

/-- What the walk behind has reads: the region's three cells. -/
theorem has_nat {S : Sts} {sc : Int} (h : S.has sc) : ∃ k : Nat, sc = (k : Int) ∧ k < S.regs.length := by
  obtain ⟨h1, h2⟩ := h
  exact ⟨sc.toNat, by omega, by omega⟩

set_option maxHeartbeats 4000000 in
set_option maxRecDepth 100000 in
theorem step_len {B : Nat} {T : Nat → Nat} {w : World} {r : Nat} {S : Sts} (h : SpecAt B T w r S) (k : Nat) (hk : k < S.regs.length) (ix : Int) (nm : ByteArray) :
    Calls Try.prog 21 #[.pointer (some ⟨r, 0, none⟩), stpV ⟨4, k, nm, ix⟩] w (StepPost B T w r S ⟨4, k, nm, ix⟩) := by
  have HS := Lib.hid h
  have hh : S.has (k : Int) := ⟨Int.natCast_nonneg k, by omega⟩
  have HH : Hid (hasB S k = true) := Lib.hid (decide_eq_true hh)
  have HE : Hid (stepS S ⟨4, k, nm, ix⟩ = some ((((S.reg k).names.length : Int), []), S)) := by
    refine Lib.hid ?_
    unfold stepS
    simp [hh]
  obtain ⟨lv, hv, nv, ov, h⟩ := h
  obtain ⟨na, nc, hn⟩ := row_shape (h.nrow k hk)
  obtain ⟨oa, oc, ho⟩ := row_shape (h.orow k hk)
  obtain ⟨g, cap, rfl, c2, c3, c4, hgs⟩ := h.at hk
  rw [hn] at c3
  rw [ho] at c4
  have c0 := h.cell0
  have hrs : r < w.heap.size := h.fresh r (by rw [h.tr]; decide)
  have hkI : (k : Int) < (S.regs.length : Int) := by omega
  have hrs1 : r < w.heap.size + 1 := by omega
  have hrs2 : r < w.heap.size + 1 + 1 := by omega
  have hgs1 : g < w.heap.size + 1 := by omega
  have hgs2 : g < w.heap.size + 1 + 1 := by omega
  have HT : Hid (∀ b, T b ≠ 0 → b < w.heap.size) := Lib.hid h.fresh
  have HNR : Hid (w.ownsRow B 9 1 (.slice na (S.reg k).names.length nc) (S.reg k).names.length ((S.reg k).names.map .string)) := Lib.hid (by rw [← hn]; exact h.nrow k hk)
  clear h hh hn ho
  unfold stpV
  go_enter Try.func21, Try.ntmps21
  go_wp2_with (go_at_call 26; refine (has_any (HS.out.chg (M := fun _ => False) (by repeat (first | exact Chg.refl _ _ | apply Chg.alloc | apply Chg.drew | apply Chg.drewN | (refine Chg.setCell ?_ (by first | exact .inl rfl | exact .inr (by first | (simp; done) | (simp; omega) | omega)) _) | fail)) (fun _ f => f.elim)) _).mono ?_; rintro e w' ⟨rfl, rfl⟩; rw [HH.out])
  go_region
  go_wp2
  refine bodyPost_ret_by (v := (.tuple #[.agg #[.int .i64 (S.reg k).names.length, .slice none 0 0], .bool true])) (by rw [results_cell_tmp (by rfl)]; go_simp) rfl ?_
  exact step_num HS.out (by repeat (first | exact Chg.refl _ _ | apply Chg.alloc | apply Chg.drew | apply Chg.drewN | (refine Chg.setCell ?_ (by first | exact .inl rfl | exact .inr (by first | (simp; done) | (simp; omega) | omega)) _) | fail)) HE.out

set_option maxHeartbeats 4000000 in
set_option maxRecDepth 100000 in
theorem step_par {B : Nat} {T : Nat → Nat} {w : World} {r : Nat} {S : Sts} (h : SpecAt B T w r S) (k : Nat) (hk : k < S.regs.length) (ix : Int) (nm : ByteArray) :
    Calls Try.prog 21 #[.pointer (some ⟨r, 0, none⟩), stpV ⟨7, k, nm, ix⟩] w (StepPost B T w r S ⟨7, k, nm, ix⟩) := by
  have HS := Lib.hid h
  have hh : S.has (k : Int) := ⟨Int.natCast_nonneg k, by omega⟩
  have HH : Hid (hasB S k = true) := Lib.hid (decide_eq_true hh)
  have HE : Hid (stepS S ⟨7, k, nm, ix⟩ = some (((S.reg k).par, []), S)) := by
    refine Lib.hid ?_
    unfold stepS
    simp [hh]
  obtain ⟨lv, hv, nv, ov, h⟩ := h
  obtain ⟨na, nc, hn⟩ := row_shape (h.nrow k hk)
  obtain ⟨oa, oc, ho⟩ := row_shape (h.orow k hk)
  obtain ⟨g, cap, rfl, c2, c3, c4, hgs⟩ := h.at hk
  rw [hn] at c3
  rw [ho] at c4
  have c0 := h.cell0
  have hrs : r < w.heap.size := h.fresh r (by rw [h.tr]; decide)
  have hkI : (k : Int) < (S.regs.length : Int) := by omega
  have hrs1 : r < w.heap.size + 1 := by omega
  have hrs2 : r < w.heap.size + 1 + 1 := by omega
  have hgs1 : g < w.heap.size + 1 := by omega
  have hgs2 : g < w.heap.size + 1 + 1 := by omega
  have HT : Hid (∀ b, T b ≠ 0 → b < w.heap.size) := Lib.hid h.fresh
  have HNR : Hid (w.ownsRow B 9 1 (.slice na (S.reg k).names.length nc) (S.reg k).names.length ((S.reg k).names.map .string)) := Lib.hid (by rw [← hn]; exact h.nrow k hk)
  clear h hh hn ho
  unfold stpV
  go_enter Try.func21, Try.ntmps21
  go_wp2_with (go_at_call 26; refine (has_any (HS.out.chg (M := fun _ => False) (by repeat (first | exact Chg.refl _ _ | apply Chg.alloc | apply Chg.drew | apply Chg.drewN | (refine Chg.setCell ?_ (by first | exact .inl rfl | exact .inr (by first | (simp; done) | (simp; omega) | omega)) _) | fail)) (fun _ f => f.elim)) _).mono ?_; rintro e w' ⟨rfl, rfl⟩; rw [HH.out])
  go_region
  go_wp2
  refine bodyPost_ret_by (v := (.tuple #[.agg #[.int .i64 (S.reg k).par, .slice none 0 0], .bool true])) (by rw [results_cell_tmp (by rfl)]; go_simp) rfl ?_
  exact step_num HS.out (by repeat (first | exact Chg.refl _ _ | apply Chg.alloc | apply Chg.drew | apply Chg.drewN | (refine Chg.setCell ?_ (by first | exact .inl rfl | exact .inr (by first | (simp; done) | (simp; omega) | omega)) _) | fail)) HE.out

set_option maxHeartbeats 4000000 in
set_option maxRecDepth 100000 in
theorem step_kids {B : Nat} {T : Nat → Nat} {w : World} {r : Nat} {S : Sts} (h : SpecAt B T w r S) (k : Nat) (hk : k < S.regs.length) (ix : Int) (nm : ByteArray) (hS : S.WF) :
    Calls Try.prog 21 #[.pointer (some ⟨r, 0, none⟩), stpV ⟨5, k, nm, ix⟩] w (StepPost B T w r S ⟨5, k, nm, ix⟩) := by
  have HS := Lib.hid h
  have hh : S.has (k : Int) := ⟨Int.natCast_nonneg k, by omega⟩
  have HH : Hid (hasB S k = true) := Lib.hid (decide_eq_true hh)
  have HE : Hid (stepS S ⟨5, k, nm, ix⟩ = some ((((S.kids k S.regs.length).length : Int), []), S)) := by
    refine Lib.hid ?_
    unfold stepS
    simp [hh]
  obtain ⟨lv, hv, nv, ov, h⟩ := h
  obtain ⟨na, nc, hn⟩ := row_shape (h.nrow k hk)
  obtain ⟨oa, oc, ho⟩ := row_shape (h.orow k hk)
  obtain ⟨g, cap, rfl, c2, c3, c4, hgs⟩ := h.at hk
  rw [hn] at c3
  rw [ho] at c4
  have c0 := h.cell0
  have hrs : r < w.heap.size := h.fresh r (by rw [h.tr]; decide)
  have hkI : (k : Int) < (S.regs.length : Int) := by omega
  have hrs1 : r < w.heap.size + 1 := by omega
  have hrs2 : r < w.heap.size + 1 + 1 := by omega
  have hgs1 : g < w.heap.size + 1 := by omega
  have hgs2 : g < w.heap.size + 1 + 1 := by omega
  have HT : Hid (∀ b, T b ≠ 0 → b < w.heap.size) := Lib.hid h.fresh
  have HNR : Hid (w.ownsRow B 9 1 (.slice na (S.reg k).names.length nc) (S.reg k).names.length ((S.reg k).names.map .string)) := Lib.hid (by rw [← hn]; exact h.nrow k hk)
  clear h hh hn ho
  unfold stpV
  go_enter Try.func21, Try.ntmps21
  go_wp2_with (go_at_call 26; refine (has_any (HS.out.chg (M := fun _ => False) (by repeat (first | exact Chg.refl _ _ | apply Chg.alloc | apply Chg.drew | apply Chg.drewN | (refine Chg.setCell ?_ (by first | exact .inl rfl | exact .inr (by first | (simp; done) | (simp; omega) | omega)) _) | fail)) (fun _ f => f.elim)) _).mono ?_; rintro e w' ⟨rfl, rfl⟩; rw [HH.out])
  go_region
  go_wp2_with (go_at_call 30; refine (children_any (HS.out.chg (M := fun _ => False) (by repeat (first | exact Chg.refl _ _ | apply Chg.alloc | apply Chg.drew | apply Chg.drewN | (refine Chg.setCell ?_ (by first | exact .inl rfl | exact .inr (by first | (simp; done) | (simp; omega) | omega)) _) | fail)) (fun _ f => f.elim)) hS _).mono ?_; rintro e w1 ⟨v, rfl, hch0, hrow⟩; obtain ⟨va, vc, rfl⟩ := row_shape hrow; have hch : Chg (fun b => T b ≠ 0) _ w1 := hch0.mono (fun _ f => f.elim); have ⟨c30, c31, c32, c33, c40, c41, f40, f41, hsz⟩ := step_cells 5 k ix nm HT.out (by repeat (first | exact Chg.refl _ _ | apply Chg.alloc | apply Chg.drew | apply Chg.drewN | (refine Chg.setCell ?_ (by first | exact .inl rfl | exact .inr (by first | (simp; done) | (simp; omega) | omega)) _) | fail)) hch; have HCH := Lib.hid hch0; clear hch hch0 hrow)
  refine bodyPost_ret_by (v := (.tuple #[.agg #[.int .i64 (S.kids k S.regs.length).length, .slice none 0 0], .bool true])) (by rw [results_cell_tmp (by rfl)]; go_simp) rfl ?_
  refine step_num HS.out ?_ HE.out
  exact ((show Chg (fun _ => False) w _ by repeat (first | exact Chg.refl _ _ | apply Chg.alloc | apply Chg.drew | apply Chg.drewN | (refine Chg.setCell ?_ (by first | exact .inl rfl | exact .inr (by first | (simp; done) | (simp; omega) | omega)) _) | fail)).trans HCH.out (fun _ f => .inl f)).trans (M' := fun b => b = w.heap.size + 1) (by repeat (first | exact Chg.refl _ _ | apply Chg.alloc | apply Chg.drew | apply Chg.drewN | (refine Chg.setCell ?_ (by first | exact .inl rfl | exact .inr (by first | (simp; done) | (simp; omega) | omega)) _) | fail)) (fun _ e => .inr (by omega))

set_option maxHeartbeats 4000000 in
set_option maxRecDepth 100000 in
theorem step_names {B : Nat} {T : Nat → Nat} {w : World} {r : Nat} {S : Sts} (h : SpecAt B T w r S) (k : Nat) (hk : k < S.regs.length) (ix : Int) (nm : ByteArray) (hl : (S.reg k).names.length ≤ 1000) :
    Calls Try.prog 21 #[.pointer (some ⟨r, 0, none⟩), stpV ⟨3, k, nm, ix⟩] w (StepPost B T w r S ⟨3, k, nm, ix⟩) := by
  have HS := Lib.hid h
  have hh : S.has (k : Int) := ⟨Int.natCast_nonneg k, by omega⟩
  have HH : Hid (hasB S k = true) := Lib.hid (decide_eq_true hh)
  have HE : Hid (stepS S ⟨3, k, nm, ix⟩ = some ((0, isort (S.reg k).names), S)) := by
    refine Lib.hid ?_
    unfold stepS
    simp [hh]
  obtain ⟨lv, hv, nv, ov, h⟩ := h
  obtain ⟨na, nc, hn⟩ := row_shape (h.nrow k hk)
  obtain ⟨oa, oc, ho⟩ := row_shape (h.orow k hk)
  obtain ⟨g, cap, rfl, c2, c3, c4, hgs⟩ := h.at hk
  rw [hn] at c3
  rw [ho] at c4
  have c0 := h.cell0
  have hrs : r < w.heap.size := h.fresh r (by rw [h.tr]; decide)
  have hkI : (k : Int) < (S.regs.length : Int) := by omega
  have hrs1 : r < w.heap.size + 1 := by omega
  have hrs2 : r < w.heap.size + 1 + 1 := by omega
  have hgs1 : g < w.heap.size + 1 := by omega
  have hgs2 : g < w.heap.size + 1 + 1 := by omega
  have HT : Hid (∀ b, T b ≠ 0 → b < w.heap.size) := Lib.hid h.fresh
  have HNR : Hid (w.ownsRow B 9 1 (.slice na (S.reg k).names.length nc) (S.reg k).names.length ((S.reg k).names.map .string)) := Lib.hid (by rw [← hn]; exact h.nrow k hk)
  clear h hh hn ho
  unfold stpV
  go_enter Try.func21, Try.ntmps21
  go_wp2_with (go_at_call 26; refine (has_any (HS.out.chg (M := fun _ => False) (by repeat (first | exact Chg.refl _ _ | apply Chg.alloc | apply Chg.drew | apply Chg.drewN | (refine Chg.setCell ?_ (by first | exact .inl rfl | exact .inr (by first | (simp; done) | (simp; omega) | omega)) _) | fail)) (fun _ f => f.elim)) _).mono ?_; rintro e w' ⟨rfl, rfl⟩; rw [HH.out])
  go_region
  go_wp2_with (go_at_call 29; refine (sorted_any (xs := (S.reg k).names) (reads_of_row (Chg.row (M := fun _ => False) (by repeat (first | exact Chg.refl _ _ | apply Chg.alloc | apply Chg.drew | apply Chg.drewN | (refine Chg.setCell ?_ (by first | exact .inl rfl | exact .inr (by first | (simp; done) | (simp; omega) | omega)) _) | fail)) HNR.out (fun _ _ f => f))) hl).mono ?_; rintro e w1 ⟨v, rfl, hch0, hrow⟩; obtain ⟨va, vc, rfl⟩ := row_shape hrow; have hch : Chg (fun b => T b ≠ 0) _ w1 := hch0.mono (fun _ f => f.elim); have ⟨c30, c31, c32, c33, c40, c41, f40, f41, hsz⟩ := step_cells 3 k ix nm HT.out (by repeat (first | exact Chg.refl _ _ | apply Chg.alloc | apply Chg.drew | apply Chg.drewN | (refine Chg.setCell ?_ (by first | exact .inl rfl | exact .inr (by first | (simp; done) | (simp; omega) | omega)) _) | fail)) hch; have HCH := Lib.hid hch0; have HROW := Lib.hid hrow; clear hch hch0 hrow)
  refine bodyPost_ret_by (v := (.tuple #[.agg #[.int .i64 0, .slice va (S.reg k).names.length vc], .bool true])) (by rw [results_cell_tmp (by rfl)]; go_simp) rfl ?_
  exact step_list 3 k ix nm HT.out HS.out (by repeat (first | exact Chg.refl _ _ | apply Chg.alloc | apply Chg.drew | apply Chg.drewN | (refine Chg.setCell ?_ (by first | exact .inl rfl | exact .inr (by first | (simp; done) | (simp; omega) | omega)) _) | fail)) HCH.out HROW.out (by repeat (first | exact Chg.refl _ _ | apply Chg.alloc | apply Chg.drew | apply Chg.drewN | (refine Chg.setCell ?_ (by first | exact .inl rfl | exact .inr (by first | (simp; done) | (simp; omega) | omega)) _) | fail)) HE.out

set_option maxHeartbeats 4000000 in
set_option maxRecDepth 100000 in
theorem step_kid_low {B : Nat} {T : Nat → Nat} {w : World} {r : Nat} {S : Sts} (h : SpecAt B T w r S) (k : Nat) (hk : k < S.regs.length) (ix : Int) (nm : ByteArray) (hS : S.WF) (h0 : ix < 0) :
    Calls Try.prog 21 #[.pointer (some ⟨r, 0, none⟩), stpV ⟨6, k, nm, ix⟩] w (StepPost B T w r S ⟨6, k, nm, ix⟩) := by
  have HS := Lib.hid h
  have hh : S.has (k : Int) := ⟨Int.natCast_nonneg k, by omega⟩
  have HH : Hid (hasB S k = true) := Lib.hid (decide_eq_true hh)
  have HE : Hid (True) := by
    refine Lib.hid ?_
    trivial
  obtain ⟨lv, hv, nv, ov, h⟩ := h
  obtain ⟨na, nc, hn⟩ := row_shape (h.nrow k hk)
  obtain ⟨oa, oc, ho⟩ := row_shape (h.orow k hk)
  obtain ⟨g, cap, rfl, c2, c3, c4, hgs⟩ := h.at hk
  rw [hn] at c3
  rw [ho] at c4
  have c0 := h.cell0
  have hrs : r < w.heap.size := h.fresh r (by rw [h.tr]; decide)
  have hkI : (k : Int) < (S.regs.length : Int) := by omega
  have hrs1 : r < w.heap.size + 1 := by omega
  have hrs2 : r < w.heap.size + 1 + 1 := by omega
  have hgs1 : g < w.heap.size + 1 := by omega
  have hgs2 : g < w.heap.size + 1 + 1 := by omega
  have HT : Hid (∀ b, T b ≠ 0 → b < w.heap.size) := Lib.hid h.fresh
  have HNR : Hid (w.ownsRow B 9 1 (.slice na (S.reg k).names.length nc) (S.reg k).names.length ((S.reg k).names.map .string)) := Lib.hid (by rw [← hn]; exact h.nrow k hk)
  clear h hh hn ho
  unfold stpV
  go_enter Try.func21, Try.ntmps21
  go_wp2_with (go_at_call 26; refine (has_any (HS.out.chg (M := fun _ => False) (by repeat (first | exact Chg.refl _ _ | apply Chg.alloc | apply Chg.drew | apply Chg.drewN | (refine Chg.setCell ?_ (by first | exact .inl rfl | exact .inr (by first | (simp; done) | (simp; omega) | omega)) _) | fail)) (fun _ f => f.elim)) _).mono ?_; rintro e w' ⟨rfl, rfl⟩; rw [HH.out])
  go_region
  go_wp2_with (go_at_call 30; refine (children_any (HS.out.chg (M := fun _ => False) (by repeat (first | exact Chg.refl _ _ | apply Chg.alloc | apply Chg.drew | apply Chg.drewN | (refine Chg.setCell ?_ (by first | exact .inl rfl | exact .inr (by first | (simp; done) | (simp; omega) | omega)) _) | fail)) (fun _ f => f.elim)) hS _).mono ?_; rintro e w1 ⟨v, rfl, hch0, hrow⟩; obtain ⟨va, vc, rfl⟩ := row_shape hrow; have hch : Chg (fun b => T b ≠ 0) _ w1 := hch0.mono (fun _ f => f.elim); have ⟨c30, c31, c32, c33, c40, c41, f40, f41, hsz⟩ := step_cells 6 k ix nm HT.out (by repeat (first | exact Chg.refl _ _ | apply Chg.alloc | apply Chg.drew | apply Chg.drewN | (refine Chg.setCell ?_ (by first | exact .inl rfl | exact .inr (by first | (simp; done) | (simp; omega) | omega)) _) | fail)) hch; have HCH := Lib.hid hch0;  clear hch hch0 hrow)
  refine bodyPost_ret_by (v := (.tuple #[.agg #[.int .i64 0, .slice none 0 0], .bool false])) (by rw [results_cell_tmp (by rfl)]; go_simp) rfl ?_
  refine step_not ?_
  exact (((show Chg (fun _ => False) w _ by repeat (first | exact Chg.refl _ _ | apply Chg.alloc | apply Chg.drew | apply Chg.drewN | (refine Chg.setCell ?_ (by first | exact .inl rfl | exact .inr (by first | (simp; done) | (simp; omega) | omega)) _) | fail)).trans HCH.out (fun _ f => .inl f)).trans (M' := fun b => b = w.heap.size + 1) (by repeat (first | exact Chg.refl _ _ | apply Chg.alloc | apply Chg.drew | apply Chg.drewN | (refine Chg.setCell ?_ (by first | exact .inl rfl | exact .inr (by first | (simp; done) | (simp; omega) | omega)) _) | fail)) (fun _ e => .inr (by omega))).mono (fun _ f => f.elim)

set_option maxHeartbeats 4000000 in
set_option maxRecDepth 100000 in
theorem step_kid_high {B : Nat} {T : Nat → Nat} {w : World} {r : Nat} {S : Sts} (h : SpecAt B T w r S) (k : Nat) (hk : k < S.regs.length) (ix : Int) (nm : ByteArray) (hS : S.WF) (h0 : 0 ≤ ix) (h1 : ((S.kids k S.regs.length).length : Int) ≤ ix) :
    Calls Try.prog 21 #[.pointer (some ⟨r, 0, none⟩), stpV ⟨6, k, nm, ix⟩] w (StepPost B T w r S ⟨6, k, nm, ix⟩) := by
  have HS := Lib.hid h
  have hh : S.has (k : Int) := ⟨Int.natCast_nonneg k, by omega⟩
  have HH : Hid (hasB S k = true) := Lib.hid (decide_eq_true hh)
  have HE : Hid (True) := by
    refine Lib.hid ?_
    trivial
  obtain ⟨lv, hv, nv, ov, h⟩ := h
  obtain ⟨na, nc, hn⟩ := row_shape (h.nrow k hk)
  obtain ⟨oa, oc, ho⟩ := row_shape (h.orow k hk)
  obtain ⟨g, cap, rfl, c2, c3, c4, hgs⟩ := h.at hk
  rw [hn] at c3
  rw [ho] at c4
  have c0 := h.cell0
  have hrs : r < w.heap.size := h.fresh r (by rw [h.tr]; decide)
  have hkI : (k : Int) < (S.regs.length : Int) := by omega
  have hrs1 : r < w.heap.size + 1 := by omega
  have hrs2 : r < w.heap.size + 1 + 1 := by omega
  have hgs1 : g < w.heap.size + 1 := by omega
  have hgs2 : g < w.heap.size + 1 + 1 := by omega
  have HT : Hid (∀ b, T b ≠ 0 → b < w.heap.size) := Lib.hid h.fresh
  have HNR : Hid (w.ownsRow B 9 1 (.slice na (S.reg k).names.length nc) (S.reg k).names.length ((S.reg k).names.map .string)) := Lib.hid (by rw [← hn]; exact h.nrow k hk)
  have d0 : decide (ix < 0) = false := decide_eq_false (by omega)
  have d1 : decide (((S.kids k S.regs.length).length : Int) ≤ ix) = true := decide_eq_true h1
  clear h0 h1
  clear h hh hn ho
  unfold stpV
  go_enter Try.func21, Try.ntmps21
  go_wp2_with (go_at_call 26; refine (has_any (HS.out.chg (M := fun _ => False) (by repeat (first | exact Chg.refl _ _ | apply Chg.alloc | apply Chg.drew | apply Chg.drewN | (refine Chg.setCell ?_ (by first | exact .inl rfl | exact .inr (by first | (simp; done) | (simp; omega) | omega)) _) | fail)) (fun _ f => f.elim)) _).mono ?_; rintro e w' ⟨rfl, rfl⟩; rw [HH.out])
  go_region
  go_wp2_with (go_at_call 30; refine (children_any (HS.out.chg (M := fun _ => False) (by repeat (first | exact Chg.refl _ _ | apply Chg.alloc | apply Chg.drew | apply Chg.drewN | (refine Chg.setCell ?_ (by first | exact .inl rfl | exact .inr (by first | (simp; done) | (simp; omega) | omega)) _) | fail)) (fun _ f => f.elim)) hS _).mono ?_; rintro e w1 ⟨v, rfl, hch0, hrow⟩; obtain ⟨va, vc, rfl⟩ := row_shape hrow; have hch : Chg (fun b => T b ≠ 0) _ w1 := hch0.mono (fun _ f => f.elim); have ⟨c30, c31, c32, c33, c40, c41, f40, f41, hsz⟩ := step_cells 6 k ix nm HT.out (by repeat (first | exact Chg.refl _ _ | apply Chg.alloc | apply Chg.drew | apply Chg.drewN | (refine Chg.setCell ?_ (by first | exact .inl rfl | exact .inr (by first | (simp; done) | (simp; omega) | omega)) _) | fail)) hch; have HCH := Lib.hid hch0;  clear hch hch0 hrow)
  refine bodyPost_ret_by (v := (.tuple #[.agg #[.int .i64 0, .slice none 0 0], .bool false])) (by rw [results_cell_tmp (by rfl)]; go_simp) rfl ?_
  refine step_not ?_
  exact (((show Chg (fun _ => False) w _ by repeat (first | exact Chg.refl _ _ | apply Chg.alloc | apply Chg.drew | apply Chg.drewN | (refine Chg.setCell ?_ (by first | exact .inl rfl | exact .inr (by first | (simp; done) | (simp; omega) | omega)) _) | fail)).trans HCH.out (fun _ f => .inl f)).trans (M' := fun b => b = w.heap.size + 1) (by repeat (first | exact Chg.refl _ _ | apply Chg.alloc | apply Chg.drew | apply Chg.drewN | (refine Chg.setCell ?_ (by first | exact .inl rfl | exact .inr (by first | (simp; done) | (simp; omega) | omega)) _) | fail)) (fun _ e => .inr (by omega))).mono (fun _ f => f.elim)

set_option maxHeartbeats 4000000 in
set_option maxRecDepth 100000 in
theorem step_kid_at {B : Nat} {T : Nat → Nat} {w : World} {r : Nat} {S : Sts} (h : SpecAt B T w r S) (k : Nat) (hk : k < S.regs.length) (ix : Int) (nm : ByteArray) (hS : S.WF) (i : Nat) (hix : ix = i) (h1 : i < (S.kids k S.regs.length).length) :
    Calls Try.prog 21 #[.pointer (some ⟨r, 0, none⟩), stpV ⟨6, k, nm, ix⟩] w (StepPost B T w r S ⟨6, k, nm, ix⟩) := by
  have HS := Lib.hid h
  have hh : S.has (k : Int) := ⟨Int.natCast_nonneg k, by omega⟩
  have HH : Hid (hasB S k = true) := Lib.hid (decide_eq_true hh)
  have HE : Hid (stepS S ⟨6, k, nm, ix⟩ = some (((((S.kids k S.regs.length).getD i 0 : Nat) : Int), []), S)) := by
    refine Lib.hid ?_
    unfold stepS
    subst hix
    simp [hh, h1]
  obtain ⟨lv, hv, nv, ov, h⟩ := h
  obtain ⟨na, nc, hn⟩ := row_shape (h.nrow k hk)
  obtain ⟨oa, oc, ho⟩ := row_shape (h.orow k hk)
  obtain ⟨g, cap, rfl, c2, c3, c4, hgs⟩ := h.at hk
  rw [hn] at c3
  rw [ho] at c4
  have c0 := h.cell0
  have hrs : r < w.heap.size := h.fresh r (by rw [h.tr]; decide)
  have hkI : (k : Int) < (S.regs.length : Int) := by omega
  have hrs1 : r < w.heap.size + 1 := by omega
  have hrs2 : r < w.heap.size + 1 + 1 := by omega
  have hgs1 : g < w.heap.size + 1 := by omega
  have hgs2 : g < w.heap.size + 1 + 1 := by omega
  have HT : Hid (∀ b, T b ≠ 0 → b < w.heap.size) := Lib.hid h.fresh
  have HNR : Hid (w.ownsRow B 9 1 (.slice na (S.reg k).names.length nc) (S.reg k).names.length ((S.reg k).names.map .string)) := Lib.hid (by rw [← hn]; exact h.nrow k hk)
  subst hix
  have d0 : decide ((i : Int) < 0) = false := decide_eq_false (by omega)
  have d1 : decide (((S.kids k S.regs.length).length : Int) ≤ (i : Int)) = false := decide_eq_false (by omega)
  have hi1 : (i : Int) < ((S.kids k S.regs.length).length : Int) := by omega
  have hi0 : (0 : Int) ≤ (i : Int) := by omega
  obtain ⟨x, hx⟩ : ∃ x : Int, ((((S.kids k S.regs.length).getD i 0 : Nat)) : Int) = x := ⟨_, rfl⟩
  rw [hx] at HE
  have HX := Lib.hid hx
  clear hx
  clear h hh hn ho
  unfold stpV
  go_enter Try.func21, Try.ntmps21
  go_wp2_with (go_at_call 26; refine (has_any (HS.out.chg (M := fun _ => False) (by repeat (first | exact Chg.refl _ _ | apply Chg.alloc | apply Chg.drew | apply Chg.drewN | (refine Chg.setCell ?_ (by first | exact .inl rfl | exact .inr (by first | (simp; done) | (simp; omega) | omega)) _) | fail)) (fun _ f => f.elim)) _).mono ?_; rintro e w' ⟨rfl, rfl⟩; rw [HH.out])
  go_region
  go_wp2_with (go_at_call 30; refine (children_any (HS.out.chg (M := fun _ => False) (by repeat (first | exact Chg.refl _ _ | apply Chg.alloc | apply Chg.drew | apply Chg.drewN | (refine Chg.setCell ?_ (by first | exact .inl rfl | exact .inr (by first | (simp; done) | (simp; omega) | omega)) _) | fail)) (fun _ f => f.elim)) hS _).mono ?_; rintro e w1 ⟨v, rfl, hch0, hrow⟩; obtain ⟨va, vc, rfl⟩ := row_shape hrow; have hch : Chg (fun b => T b ≠ 0) _ w1 := hch0.mono (fun _ f => f.elim); have ⟨c30, c31, c32, c33, c40, c41, f40, f41, hsz⟩ := step_cells 6 k i nm HT.out (by repeat (first | exact Chg.refl _ _ | apply Chg.alloc | apply Chg.drew | apply Chg.drewN | (refine Chg.setCell ?_ (by first | exact .inl rfl | exact .inr (by first | (simp; done) | (simp; omega) | omega)) _) | fail)) hch; have HCH := Lib.hid hch0; obtain ⟨gk, ck, hke, _, _⟩ := hrow.form (by omega); cases hke; have ck := hrow.cellAt i (by omega); rw [List.getElem?_map, getD_some _ _ 0 h1] at ck; have ck2 : w1.cell? ⟨gk, i, none⟩ = some (.int .i64 x) := (by rw [← HX.out]; exact ck); clear ck;  clear hch hch0 hrow)
  refine bodyPost_ret_by (v := (.tuple #[.agg #[.int .i64 x, .slice none 0 0], .bool true])) (by rw [results_cell_tmp (by rfl)]; go_simp) rfl ?_
  refine step_num HS.out ?_ HE.out
  exact ((show Chg (fun _ => False) w _ by repeat (first | exact Chg.refl _ _ | apply Chg.alloc | apply Chg.drew | apply Chg.drewN | (refine Chg.setCell ?_ (by first | exact .inl rfl | exact .inr (by first | (simp; done) | (simp; omega) | omega)) _) | fail)).trans HCH.out (fun _ f => .inl f)).trans (M' := fun b => b = w.heap.size + 1) (by repeat (first | exact Chg.refl _ _ | apply Chg.alloc | apply Chg.drew | apply Chg.drewN | (refine Chg.setCell ?_ (by first | exact .inl rfl | exact .inr (by first | (simp; done) | (simp; omega) | omega)) _) | fail)) (fun _ e => .inr (by omega))

end Go.Proofs.Ytipmpeekfajlcaa
