/- The walk of the program's take: it gives what stepS gives. -/
import Derived.Test.YtipmpeekfajlcaaImplMore2
import Derived.Test.YtipmpeekfajlcaaNames
namespace Go.Proofs.Ytipmpeekfajlcaa
open Go.RowKit

/-- What take gives where stepS gives g, S'. -/
def TakePost (B : Nat) (T : Nat → Nat) (w : World) (r : Nat) (g : Got) (S' : Sts) (e : Ending) (w' : World) : Prop :=
  Chg (fun b => T b ≠ 0) w w' ∧ ∃ (a : Option Addr) (n c : Nat) (T' : Nat → Nat), e = .returned (.agg #[.int .i64 g.1, .slice a n c]) ∧ ImplAt B T' w' r S' ∧ Ext T T' w ∧ Names w w' T' (.slice a n c) g.2

theorem results_cell1 {fn : Func} {p : Tmp} {ty : TypeId} (h : fn.results = #[.cell p ty]) (tmps : Array Value) (P : Program) (w : World) :
    (results fn tmps).run P w = ((asAddr (tmps.getD p undef)).run P w).andThen fun a w₁ => (loadVar ty a).run P w₁ := by
  simp only [results, h]
  simp [Sem.run_bind, Result.andThen]

theorem take_num {B : Nat} {T : Nat → Nat} {w w' : World} {r : Nat} {S : Sts} {x : Int} (h : ImplAt B T w r S) (hc : Chg (fun _ => False) w w') : TakePost B T w r (x, []) S (.returned (.agg #[.int .i64 x, .slice none 0 0])) w' :=
  ⟨hc.mono (fun _ f => f.elim), _, _, _, T, rfl, h.chg hc (fun _ f => f.elim), Ext.refl _ _, names_none _ _ _⟩

theorem take_list {B : Nat} {T : Nat → Nat} {w wc w1 w2 : World} {r : Nat} {S : Sts} {a : Option Addr} {n c : Nat} {G : List ByteArray} (hT : ∀ b, T b ≠ 0 → b < w.heap.size) (h : ImplAt B T w r S) (kd sc ix : Int) (nm : ByteArray)
    (h0 : Chg (fun _ => False) (stW w kd sc ix nm) wc) (h1 : Chg (fun _ => False) wc w1) (hr : Reads w1 (.slice a n c) (G.map .string)) (hb : ∀ g, (Value.slice a n c).ownBlock = some g → wc.heap.size ≤ g ∧ g < w1.heap.size)
    (hc : Chg (fun b => b = w.heap.size + 1) w1 w2) : TakePost B T w r (0, G) S (.returned (.agg #[.int .i64 0, .slice a n c])) w2 := by
  have c1 : Chg (fun _ => False) w wc := (((Chg.refl (fun _ => False) w).alloc _).alloc _).trans h0 (fun _ f => f.elim)
  have z : w.heap.size + 2 ≤ wc.heap.size := by have := h0.size; simp at this; omega
  have c2 : Chg (fun _ => False) w w2 := (c1.trans h1 (fun _ f => f.elim)).trans hc (fun _ e => .inr (by omega))
  refine ⟨c2.mono (fun _ f => f.elim), _, _, _, T, rfl, h.chg c2 (fun _ f => f.elim), Ext.refl _ _, hr.chg hc (fun g hg e => ?_), fun g hg => ?_⟩
  · have := (hb g hg).1
    omega
  · have h1 := hb g hg
    refine ⟨Decidable.byContradiction fun e => ?_, by omega, Nat.lt_of_lt_of_le h1.2 hc.size⟩
    have := hT g e
    omega

set_option maxHeartbeats 4000000 in
set_option maxRecDepth 100000 in
theorem take_len {B : Nat} {T : Nat → Nat} {w : World} {r : Nat} {S : Sts} (h : ImplAt B T w r S) (hS : S.WF) (k : Nat) (hk : k < S.regs.length) (ix : Int) (nm : ByteArray) :
    Calls Try.prog 22 #[.pointer (some ⟨r, 0, none⟩), stpV ⟨4, k, nm, ix⟩] w (TakePost B T w r ((S.reg k).names.length, []) S) := by
  have HS := Lib.hid h
  obtain ⟨la, oa, lc, oc, p, h⟩ := h
  have h0 : w.cell? ⟨p.sb k, 0, none⟩ = some (.pointer (parA p.sb (S.reg k).par)) := cell_of_row w _ 0 _ 69 (0, 0) (h.sc k hk)
  have h1 : w.cell? ⟨p.sb k, 1, none⟩ = some (.slice (p.ka k) (S.kids k S.regs.length).length (p.kc k)) := cell_of_row w _ 1 _ 69 (0, 0) (h.sc k hk)
  have h3 : w.cell? ⟨p.sb k, 3, none⟩ = some (.map (p.m k)) := cell_of_row w _ 3 _ 69 (0, 0) (h.sc k hk)
  have HR := Lib.hid h
  have h30 := hS.regs30
  have hfew := hS.few k hk
  have HA : Hid (scopeA S p.sb k = some ⟨p.sb k, 0, none⟩) := by
    refine Lib.hid ?_
    unfold scopeA
    rw [if_pos ⟨Int.natCast_nonneg k, by omega⟩, parA_nat]
  have HM := Lib.hid (h.mrep k hk)
  have hbl : p.sb k < w.heap.size := World.block_lt_of_cell? w _ h3
  have HT : Hid (∀ b, T b ≠ 0 → b < w.heap.size) := Lib.hid (fun b e => (h.fresh b e).2)
  clear h
  unfold stpV
  go_enter Try.func22, Try.ntmps22
  go_wp2_with (first
    | (go_at_call 31; refine (scope_any (HR.out.chg (M := fun _ => False) (by repeat (first | exact Chg.refl _ _ | apply Chg.alloc | apply Chg.drew | apply Chg.drewN | (refine Chg.setCell ?_ (by first | exact .inl rfl | exact .inr (by first | (simp; done) | (simp; omega) | omega)) _) | fail)) (fun _ f => f.elim)) _).mono ?_; rintro e w' ⟨rfl, rfl⟩; rw [HA.out])
    | (go_at_call 18; refine (len_at _ (p.m k) (S.reg k).names.length _ (by go_simp) (map_len (HM.out.chg (M := fun _ => False) (by repeat (first | exact Chg.refl _ _ | apply Chg.alloc | apply Chg.drew | apply Chg.drewN | (refine Chg.setCell ?_ (by first | exact .inl rfl | exact .inr (by first | (simp; done) | (simp; omega) | omega)) _) | fail)) (fun _ _ f => f)))).mono ?_; rintro e w' ⟨rfl, rfl⟩))
  refine bodyPost_ret_by (v := (.agg #[.int .i64 (S.reg k).names.length, .slice none 0 0])) (by rw [results_cell1 (by rfl)]; go_simp) rfl ?_
  exact take_num HS.out (by repeat (first | exact Chg.refl _ _ | apply Chg.alloc | apply Chg.drew | apply Chg.drewN | (refine Chg.setCell ?_ (by first | exact .inl rfl | exact .inr (by first | (simp; done) | (simp; omega) | omega)) _) | fail))

set_option maxHeartbeats 4000000 in
set_option maxRecDepth 100000 in
theorem take_kids {B : Nat} {T : Nat → Nat} {w : World} {r : Nat} {S : Sts} (h : ImplAt B T w r S) (hS : S.WF) (k : Nat) (hk : k < S.regs.length) (ix : Int) (nm : ByteArray) :
    Calls Try.prog 22 #[.pointer (some ⟨r, 0, none⟩), stpV ⟨5, k, nm, ix⟩] w (TakePost B T w r ((S.kids k S.regs.length).length, []) S) := by
  have HS := Lib.hid h
  obtain ⟨la, oa, lc, oc, p, h⟩ := h
  have h0 : w.cell? ⟨p.sb k, 0, none⟩ = some (.pointer (parA p.sb (S.reg k).par)) := cell_of_row w _ 0 _ 69 (0, 0) (h.sc k hk)
  have h1 : w.cell? ⟨p.sb k, 1, none⟩ = some (.slice (p.ka k) (S.kids k S.regs.length).length (p.kc k)) := cell_of_row w _ 1 _ 69 (0, 0) (h.sc k hk)
  have h3 : w.cell? ⟨p.sb k, 3, none⟩ = some (.map (p.m k)) := cell_of_row w _ 3 _ 69 (0, 0) (h.sc k hk)
  have HR := Lib.hid h
  have h30 := hS.regs30
  have hfew := hS.few k hk
  have HA : Hid (scopeA S p.sb k = some ⟨p.sb k, 0, none⟩) := by
    refine Lib.hid ?_
    unfold scopeA
    rw [if_pos ⟨Int.natCast_nonneg k, by omega⟩, parA_nat]
  have HM := Lib.hid (h.mrep k hk)
  have hbl : p.sb k < w.heap.size := World.block_lt_of_cell? w _ h3
  have HT : Hid (∀ b, T b ≠ 0 → b < w.heap.size) := Lib.hid (fun b e => (h.fresh b e).2)
  clear h
  unfold stpV
  go_enter Try.func22, Try.ntmps22
  go_wp2_with (first
    | (go_at_call 31; refine (scope_any (HR.out.chg (M := fun _ => False) (by repeat (first | exact Chg.refl _ _ | apply Chg.alloc | apply Chg.drew | apply Chg.drewN | (refine Chg.setCell ?_ (by first | exact .inl rfl | exact .inr (by first | (simp; done) | (simp; omega) | omega)) _) | fail)) (fun _ f => f.elim)) _).mono ?_; rintro e w' ⟨rfl, rfl⟩; rw [HA.out])
    | (go_at_call 38; refine (numChildren_at (p.sb k) (p.ka k) (S.kids k S.regs.length).length (p.kc k) _ (by go_simp)).mono ?_; rintro e w' ⟨rfl, rfl⟩))
  refine bodyPost_ret_by (v := (.agg #[.int .i64 (S.kids k S.regs.length).length, .slice none 0 0])) (by rw [results_cell1 (by rfl)]; go_simp) rfl ?_
  exact take_num HS.out (by repeat (first | exact Chg.refl _ _ | apply Chg.alloc | apply Chg.drew | apply Chg.drewN | (refine Chg.setCell ?_ (by first | exact .inl rfl | exact .inr (by first | (simp; done) | (simp; omega) | omega)) _) | fail))

set_option maxHeartbeats 4000000 in
set_option maxRecDepth 100000 in
theorem take_par {B : Nat} {T : Nat → Nat} {w : World} {r : Nat} {S : Sts} (h : ImplAt B T w r S) (hS : S.WF) (k : Nat) (hk : k < S.regs.length) (ix : Int) (nm : ByteArray) :
    Calls Try.prog 22 #[.pointer (some ⟨r, 0, none⟩), stpV ⟨7, k, nm, ix⟩] w (TakePost B T w r ((S.reg k).par, []) S) := by
  have HS := Lib.hid h
  obtain ⟨la, oa, lc, oc, p, h⟩ := h
  have h0 : w.cell? ⟨p.sb k, 0, none⟩ = some (.pointer (parA p.sb (S.reg k).par)) := cell_of_row w _ 0 _ 69 (0, 0) (h.sc k hk)
  have h1 : w.cell? ⟨p.sb k, 1, none⟩ = some (.slice (p.ka k) (S.kids k S.regs.length).length (p.kc k)) := cell_of_row w _ 1 _ 69 (0, 0) (h.sc k hk)
  have h3 : w.cell? ⟨p.sb k, 3, none⟩ = some (.map (p.m k)) := cell_of_row w _ 3 _ 69 (0, 0) (h.sc k hk)
  have HR := Lib.hid h
  have h30 := hS.regs30
  have hfew := hS.few k hk
  have HA : Hid (scopeA S p.sb k = some ⟨p.sb k, 0, none⟩) := by
    refine Lib.hid ?_
    unfold scopeA
    rw [if_pos ⟨Int.natCast_nonneg k, by omega⟩, parA_nat]
  have HM := Lib.hid (h.mrep k hk)
  have hbl : p.sb k < w.heap.size := World.block_lt_of_cell? w _ h3
  have HT : Hid (∀ b, T b ≠ 0 → b < w.heap.size) := Lib.hid (fun b e => (h.fresh b e).2)
  have hpar := hS.par k hk
  clear h
  unfold stpV
  go_enter Try.func22, Try.ntmps22
  go_wp2_with (first
    | (go_at_call 31; refine (scope_any (HR.out.chg (M := fun _ => False) (by repeat (first | exact Chg.refl _ _ | apply Chg.alloc | apply Chg.drew | apply Chg.drewN | (refine Chg.setCell ?_ (by first | exact .inl rfl | exact .inr (by first | (simp; done) | (simp; omega) | omega)) _) | fail)) (fun _ f => f.elim)) _).mono ?_; rintro e w' ⟨rfl, rfl⟩; rw [HA.out])
    | (go_at_call 41; refine (parent_at (p.sb k) (parA p.sb (S.reg k).par) _ (by go_simp)).mono ?_; rintro e w' ⟨rfl, rfl⟩)
    | (go_at_call 39; refine (numberOf_any (HR.out.chg (M := fun _ => False) (by repeat (first | exact Chg.refl _ _ | apply Chg.alloc | apply Chg.drew | apply Chg.drewN | (refine Chg.setCell ?_ (by first | exact .inl rfl | exact .inr (by first | (simp; done) | (simp; omega) | omega)) _) | fail)) (fun _ f => f.elim)) (by omega) (S.reg k).par (by omega) (by omega)).mono ?_; rintro e w' ⟨rfl, rfl⟩))
  refine bodyPost_ret_by (v := (.agg #[.int .i64 (S.reg k).par, .slice none 0 0])) (by rw [results_cell1 (by rfl)]; go_simp) rfl ?_
  exact take_num HS.out (by repeat (first | exact Chg.refl _ _ | apply Chg.alloc | apply Chg.drew | apply Chg.drewN | (refine Chg.setCell ?_ (by first | exact .inl rfl | exact .inr (by first | (simp; done) | (simp; omega) | omega)) _) | fail))

set_option maxHeartbeats 4000000 in
set_option maxRecDepth 100000 in
theorem take_kid {B : Nat} {T : Nat → Nat} {w : World} {r : Nat} {S : Sts} (h : ImplAt B T w r S) (hS : S.WF) (k : Nat) (hk : k < S.regs.length) (ix : Int) (nm : ByteArray) (i : Nat) (hix : ix = i) (hi : i < (S.kids k S.regs.length).length) :
    Calls Try.prog 22 #[.pointer (some ⟨r, 0, none⟩), stpV ⟨6, k, nm, ix⟩] w (TakePost B T w r ((((S.kids k S.regs.length).getD i 0 : Nat) : Int), []) S) := by
  have HS := Lib.hid h
  obtain ⟨la, oa, lc, oc, p, h⟩ := h
  have h0 : w.cell? ⟨p.sb k, 0, none⟩ = some (.pointer (parA p.sb (S.reg k).par)) := cell_of_row w _ 0 _ 69 (0, 0) (h.sc k hk)
  have h1 : w.cell? ⟨p.sb k, 1, none⟩ = some (.slice (p.ka k) (S.kids k S.regs.length).length (p.kc k)) := cell_of_row w _ 1 _ 69 (0, 0) (h.sc k hk)
  have h3 : w.cell? ⟨p.sb k, 3, none⟩ = some (.map (p.m k)) := cell_of_row w _ 3 _ 69 (0, 0) (h.sc k hk)
  have HR := Lib.hid h
  have h30 := hS.regs30
  have hfew := hS.few k hk
  have HA : Hid (scopeA S p.sb k = some ⟨p.sb k, 0, none⟩) := by
    refine Lib.hid ?_
    unfold scopeA
    rw [if_pos ⟨Int.natCast_nonneg k, by omega⟩, parA_nat]
  have HM := Lib.hid (h.mrep k hk)
  have hbl : p.sb k < w.heap.size := World.block_lt_of_cell? w _ h3
  have HT : Hid (∀ b, T b ≠ 0 → b < w.heap.size) := Lib.hid (fun b e => (h.fresh b e).2)
  subst hix
  obtain ⟨c, hcx⟩ : ∃ c, (S.kids k S.regs.length).getD i 0 = c := ⟨_, rfl⟩
  have hcm : c ∈ S.kids k S.regs.length := by
    rw [← hcx, List.getD_eq_getElem?_getD, List.getElem?_eq_getElem hi]
    exact List.getElem_mem hi
  have hcl : c < S.regs.length := by
    unfold Sts.kids at hcm
    exact List.mem_range.1 (List.mem_filter.1 hcm).1
  obtain ⟨g, gc, hke, _, hgl⟩ := (h.krow k hk).form (by omega)
  have hrow := h.krow k hk
  rw [hke] at h1 hrow
  have hcell : w.cell? ⟨g, i, none⟩ = some (.pointer (some ⟨p.sb c, 0, none⟩)) := by
    rw [hrow.cellAt i (by omega), List.getElem?_map, getD_some _ _ 0 hi, hcx]
    rfl
  have HN : Hid (∀ W, Chg (fun _ => False) w W → Calls Try.prog 39 #[.pointer (some ⟨r, 0, none⟩), .pointer (some ⟨p.sb c, 0, none⟩)] W fun e w' => e = .returned (.int .i64 c) ∧ W = w') := by
    refine Lib.hid (fun W kW => ?_)
    have := numberOf_any (HR.out.chg kW (fun _ f => f.elim)) (by omega) (c : Int) (by omega) (by omega)
    rw [parA_nat] at this
    exact this
  have hi1 : (i : Int) < ((S.kids k S.regs.length).length : Int) := by omega
  have hi0 : (0 : Int) ≤ (i : Int) := by omega
  rw [hcx]
  clear hcm hcx hke hrow
  clear h
  unfold stpV
  go_enter Try.func22, Try.ntmps22
  go_wp2_with (first
    | (go_at_call 31; refine (scope_any (HR.out.chg (M := fun _ => False) (by repeat (first | exact Chg.refl _ _ | apply Chg.alloc | apply Chg.drew | apply Chg.drewN | (refine Chg.setCell ?_ (by first | exact .inl rfl | exact .inr (by first | (simp; done) | (simp; omega) | omega)) _) | fail)) (fun _ f => f.elim)) _).mono ?_; rintro e w' ⟨rfl, rfl⟩; rw [HA.out])
    | (go_at_call 40; refine (child_at _ g _ gc i (p.sb c) _ (by go_simp) hi (by go_simp)).mono ?_; rintro e w' ⟨rfl, rfl⟩)
    | (go_at_call 39; refine (HN.out _ (by repeat (first | exact Chg.refl _ _ | apply Chg.alloc | apply Chg.drew | apply Chg.drewN | (refine Chg.setCell ?_ (by first | exact .inl rfl | exact .inr (by first | (simp; done) | (simp; omega) | omega)) _) | fail))).mono ?_; rintro e w' ⟨rfl, rfl⟩))
  refine bodyPost_ret_by (v := (.agg #[.int .i64 (c : Int), .slice none 0 0])) (by rw [results_cell1 (by rfl)]; go_simp) rfl ?_
  exact take_num HS.out (by repeat (first | exact Chg.refl _ _ | apply Chg.alloc | apply Chg.drew | apply Chg.drewN | (refine Chg.setCell ?_ (by first | exact .inl rfl | exact .inr (by first | (simp; done) | (simp; omega) | omega)) _) | fail))

set_option maxHeartbeats 4000000 in
set_option maxRecDepth 100000 in
theorem take_look {B : Nat} {T : Nat → Nat} {w : World} {r : Nat} {S : Sts} (h : ImplAt B T w r S) (hS : S.WF) (k : Nat) (hk : k < S.regs.length) (ix : Int) (nm : ByteArray) (hm : S.homes.length ≤ 900) (hnm : nm.size ≤ maxLen) :
    Calls Try.prog 22 #[.pointer (some ⟨r, 0, none⟩), stpV ⟨2, k, nm, ix⟩] w (TakePost B T w r (findI (S.reg k).names (S.reg k).objs nm, []) S) := by
  have HS := Lib.hid h
  obtain ⟨la, oa, lc, oc, p, h⟩ := h
  have h0 : w.cell? ⟨p.sb k, 0, none⟩ = some (.pointer (parA p.sb (S.reg k).par)) := cell_of_row w _ 0 _ 69 (0, 0) (h.sc k hk)
  have h1 : w.cell? ⟨p.sb k, 1, none⟩ = some (.slice (p.ka k) (S.kids k S.regs.length).length (p.kc k)) := cell_of_row w _ 1 _ 69 (0, 0) (h.sc k hk)
  have h3 : w.cell? ⟨p.sb k, 3, none⟩ = some (.map (p.m k)) := cell_of_row w _ 3 _ 69 (0, 0) (h.sc k hk)
  have HR := Lib.hid h
  have h30 := hS.regs30
  have hfew := hS.few k hk
  have HA : Hid (scopeA S p.sb k = some ⟨p.sb k, 0, none⟩) := by
    refine Lib.hid ?_
    unfold scopeA
    rw [if_pos ⟨Int.natCast_nonneg k, by omega⟩, parA_nat]
  have HM := Lib.hid (h.mrep k hk)
  have hbl : p.sb k < w.heap.size := World.block_lt_of_cell? w _ h3
  have HT : Hid (∀ b, T b ≠ 0 → b < w.heap.size) := Lib.hid (fun b e => (h.fresh b e).2)
  have HF : Hid ((∀ x ∈ (S.reg k).names, 0 ≤ findI (S.reg k).names (S.reg k).objs x) ∧ -1 ≤ findI (S.reg k).names (S.reg k).objs nm ∧ findI (S.reg k).names (S.reg k).objs nm < S.homes.length) := by
    refine Lib.hid ⟨fun x hx => (Sts.found_iff hS hk x).2 hx, ?_⟩
    by_cases hin : nm ∈ (S.reg k).names
    · have := hS.objs k hk _ (findI_mem nm _ _ (hS.len k hk) hin)
      omega
    · rw [findI_not nm _ _ hin]
      omega
  clear h
  unfold stpV
  go_enter Try.func22, Try.ntmps22
  go_wp2_with (first
    | (go_at_call 31; refine (scope_any (HR.out.chg (M := fun _ => False) (by repeat (first | exact Chg.refl _ _ | apply Chg.alloc | apply Chg.drew | apply Chg.drewN | (refine Chg.setCell ?_ (by first | exact .inl rfl | exact .inr (by first | (simp; done) | (simp; omega) | omega)) _) | fail)) (fun _ f => f.elim)) _).mono ?_; rintro e w' ⟨rfl, rfl⟩; rw [HA.out])
    | (go_at_call 36; refine (lookup_at _ (p.m k) nm _ _ (by go_simp) (map_lookup (HM.out.chg (M := fun _ => False) (by repeat (first | exact Chg.refl _ _ | apply Chg.alloc | apply Chg.drew | apply Chg.drewN | (refine Chg.setCell ?_ (by first | exact .inl rfl | exact .inr (by first | (simp; done) | (simp; omega) | omega)) _) | fail)) (fun _ _ f => f)) HF.out.1 hnm)).mono ?_; rintro e w' ⟨rfl, rfl⟩)
    | (go_at_call 34; refine (objectOf_any (HR.out.chg (M := fun _ => False) (by repeat (first | exact Chg.refl _ _ | apply Chg.alloc | apply Chg.drew | apply Chg.drewN | (refine Chg.setCell ?_ (by first | exact .inl rfl | exact .inr (by first | (simp; done) | (simp; omega) | omega)) _) | fail)) (fun _ f => f.elim)) (by omega) (findI (S.reg k).names (S.reg k).objs nm) HF.out.2.1 HF.out.2.2).mono ?_; rintro e w' ⟨rfl, rfl⟩))
  refine bodyPost_ret_by (v := (.agg #[.int .i64 (findI (S.reg k).names (S.reg k).objs nm), .slice none 0 0])) (by rw [results_cell1 (by rfl)]; go_simp) rfl ?_
  exact take_num HS.out (by repeat (first | exact Chg.refl _ _ | apply Chg.alloc | apply Chg.drew | apply Chg.drewN | (refine Chg.setCell ?_ (by first | exact .inl rfl | exact .inr (by first | (simp; done) | (simp; omega) | omega)) _) | fail))

set_option maxHeartbeats 4000000 in
set_option maxRecDepth 100000 in
theorem take_names {B : Nat} {T : Nat → Nat} {w : World} {r : Nat} {S : Sts} (h : ImplAt B T w r S) (hS : S.WF) (k : Nat) (hk : k < S.regs.length) (ix : Int) (nm : ByteArray) (hm : S.homes.length ≤ 900) :
    Calls Try.prog 22 #[.pointer (some ⟨r, 0, none⟩), stpV ⟨3, k, nm, ix⟩] w (TakePost B T w r (0, isort (S.reg k).names) S) := by
  have HS := Lib.hid h
  obtain ⟨la, oa, lc, oc, p, h⟩ := h
  have h0 : w.cell? ⟨p.sb k, 0, none⟩ = some (.pointer (parA p.sb (S.reg k).par)) := cell_of_row w _ 0 _ 69 (0, 0) (h.sc k hk)
  have h1 : w.cell? ⟨p.sb k, 1, none⟩ = some (.slice (p.ka k) (S.kids k S.regs.length).length (p.kc k)) := cell_of_row w _ 1 _ 69 (0, 0) (h.sc k hk)
  have h3 : w.cell? ⟨p.sb k, 3, none⟩ = some (.map (p.m k)) := cell_of_row w _ 3 _ 69 (0, 0) (h.sc k hk)
  have HR := Lib.hid h
  have h30 := hS.regs30
  have hfew := hS.few k hk
  have HA : Hid (scopeA S p.sb k = some ⟨p.sb k, 0, none⟩) := by
    refine Lib.hid ?_
    unfold scopeA
    rw [if_pos ⟨Int.natCast_nonneg k, by omega⟩, parA_nat]
  have HM := Lib.hid (h.mrep k hk)
  have hbl : p.sb k < w.heap.size := World.block_lt_of_cell? w _ h3
  have HT : Hid (∀ b, T b ≠ 0 → b < w.heap.size) := Lib.hid (fun b e => (h.fresh b e).2)
  have HND := Lib.hid (hS.nodup k hk)
  clear h
  unfold stpV
  go_enter Try.func22, Try.ntmps22
  go_wp2_with (first
    | (go_at_call 31; refine (scope_any (HR.out.chg (M := fun _ => False) (by repeat (first | exact Chg.refl _ _ | apply Chg.alloc | apply Chg.drew | apply Chg.drewN | (refine Chg.setCell ?_ (by first | exact .inl rfl | exact .inr (by first | (simp; done) | (simp; omega) | omega)) _) | fail)) (fun _ f => f.elim)) _).mono ?_; rintro e w' ⟨rfl, rfl⟩; rw [HA.out])
    | (go_at_call 37; refine (names_any (m := p.m k) (ns := (S.reg k).names) (os := (S.reg k).objs) (ob := p.ob) (by go_simp) (HM.out.chg (M := fun _ => False) (by repeat (first | exact Chg.refl _ _ | apply Chg.alloc | apply Chg.drew | apply Chg.drewN | (refine Chg.setCell ?_ (by first | exact .inl rfl | exact .inr (by first | (simp; done) | (simp; omega) | omega)) _) | fail)) (fun _ _ f => f)) (by omega) HND.out).mono ?_; rintro e w1 ⟨a, c, rfl, hch0, hrd, hbk⟩; have hch : Chg (fun b => T b ≠ 0) _ w1 := hch0.mono (fun _ f => f.elim); have ⟨c30, c31, c32, c33, c40, c41, f40, f41, hsz⟩ := step_cells 3 k ix nm HT.out (by repeat (first | exact Chg.refl _ _ | apply Chg.alloc | apply Chg.drew | apply Chg.drewN | (refine Chg.setCell ?_ (by first | exact .inl rfl | exact .inr (by first | (simp; done) | (simp; omega) | omega)) _) | fail)) hch; have HCH := Lib.hid hch0; have HRD := Lib.hid hrd; have HBK := Lib.hid hbk; clear hch hch0 hrd hbk))
  refine bodyPost_ret_by (v := (.agg #[.int .i64 0, .slice a (S.reg k).names.length c])) (by rw [results_cell1 (by rfl)]; go_simp) rfl ?_
  exact take_list HT.out HS.out 3 k ix nm (by repeat (first | exact Chg.refl _ _ | apply Chg.alloc | apply Chg.drew | apply Chg.drewN | (refine Chg.setCell ?_ (by first | exact .inl rfl | exact .inr (by first | (simp; done) | (simp; omega) | omega)) _) | fail)) HCH.out HRD.out HBK.out (by repeat (first | exact Chg.refl _ _ | apply Chg.alloc | apply Chg.drew | apply Chg.drewN | (refine Chg.setCell ?_ (by first | exact .inl rfl | exact .inr (by first | (simp; done) | (simp; omega) | omega)) _) | fail))

end Go.Proofs.Ytipmpeekfajlcaa
