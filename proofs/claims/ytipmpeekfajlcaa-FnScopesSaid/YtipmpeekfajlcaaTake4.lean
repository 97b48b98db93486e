/- The walk of the program's take: an object inserted. -/
import Derived.Test.YtipmpeekfajlcaaTake3
namespace Go.Proofs.Ytipmpeekfajlcaa
open Go.RowKit

theorem info84 : (Try.prog.info? 84).map (fun i => (i.zero, i.size, i.bytes)) = some (some .nilIface, 1, 16) := by kernel_rfl

section
variable {B : Nat} {T : Nat → Nat} {w : World} {r : Nat} {S : Sts} {la oa : Option Addr} {lc oc : Nat} {p : Pos}
theorem call_ins_old (h : ImplRep B T w r S la oa lc oc p) (hS : S.WF) {k : Nat} (hk : k < S.regs.length) {nm : ByteArray} (hnm : nm.size ≤ maxLen) {oN : Nat} {a : Addr} (hobj : w.heap[oN]? = some (.cells (varCells nm a) 105 (0, 0)))
    (hf : 0 ≤ findI (S.reg k).names (S.reg k).objs nm) :
    Calls Try.prog 35 #[.pointer (some ⟨p.sb k, 0, none⟩), .iface 77 (.pointer (some ⟨oN, 0, none⟩))] w fun e w' => e = .returned (objA p.ob (findI (S.reg k).names (S.reg k).objs nm)) ∧ w = w' := by
  have hl := map_lookup (h.mrep k hk) (fun x hx => (Sts.found_iff hS hk x).2 hx) hnm
  have e : objA p.ob (findI (S.reg k).names (S.reg k).objs nm) = .iface 77 (.pointer (some ⟨p.ob (findI (S.reg k).names (S.reg k).objs nm).toNat, 0, none⟩)) := if_pos hf
  rw [e] at hl ⊢
  exact insert_found w (p.sb k) (p.m k) nm oN _ a (cell_of_row w _ 3 _ 69 (0, 0) (h.sc k hk)) hobj hl

theorem call_ins_new (h : ImplRep B T w r S la oa lc oc p) (hS : S.WF) {k : Nat} (hk : k < S.regs.length) {nm : ByteArray} (hnm : nm.size ≤ maxLen) {o : Nat} {a : Addr} (ho : o < S.homes.length) {oN : Nat} (hoN : p.ob o = oN) (hobj : w.heap[oN]? = some (.cells (varCells nm a) 105 (0, 0)))
    (hf : findI (S.reg k).names (S.reg k).objs nm < 0) (hm : S.homes.length ≤ 1000) :
    Calls Try.prog 35 #[.pointer (some ⟨p.sb k, 0, none⟩), .iface 77 (.pointer (some ⟨oN, 0, none⟩))] w (InsNew w (p.sb k) (parA p.sb (S.reg k).par) (p.ka k) (S.kids k S.regs.length).length (p.kc k) (p.num k) (p.m k) (S.reg k).names (S.reg k).objs p.ob nm a o) := by
  subst hoN
  have hl := map_lookup (h.mrep k hk) (fun x hx => (Sts.found_iff hS hk x).2 hx) hnm
  have e : objA p.ob (findI (S.reg k).names (S.reg k).objs nm) = .nilIface := if_neg (by omega)
  rw [e] at hl
  have hx : nm ∉ (S.reg k).names := fun hin => by have := (Sts.found_iff hS hk nm).2 hin; omega
  have hts := h.ts k hk
  have hto := h.tj o ho
  have hfew := hS.few k hk
  refine insert_new w (p.sb k) _ _ _ _ _ (p.m k) _ _ p.ob nm a o (h.sc k hk) hobj (fun e => by rw [e] at hts; omega) (fun mb e => ?_) hl ?_
  · have := h.tm k hk mb e
    exact ⟨fun e' => by rw [e'] at this; omega, fun e' => by rw [e'] at this; omega⟩
  · have hmr := h.mrep k hk
    have hsc := h.sc k hk
    have hlen := hS.len k hk
    cases e : p.m k with
    | none =>
      rw [e] at hmr hsc
      rcases hmr with ⟨_, hns⟩ | ⟨b, D, e', _⟩
      · have hos : (S.reg k).objs = [] := by
          rw [hns] at hlen
          exact List.length_eq_zero_iff.1 (by simpa using hlen.symm)
        rw [hns]
        exact put_new w _ _ _ _ _ _ _ p.ob nm o hos hnm hsc
      · cases e'
    | some mb =>
      rw [e] at hmr hsc
      have := h.tm k hk mb e
      exact put_old w _ _ _ _ _ _ mb _ _ p.ob nm o hlen hx hnm (by omega) hsc hmr (fun e' => by rw [e'] at this; omega)

theorem ins_none {T2 : Nat → Nat} {Q : Pos → Prop} (h : ∃ p', ImplRep B T2 w r S la oa lc oc p' ∧ Q p') (hm : S.homes.length ≤ 1000) : Calls Try.prog 34 #[.pointer (some ⟨r, 0, none⟩), .nilIface] w fun e w' => e = .returned (.int .i64 (-1)) ∧ w = w' := by
  obtain ⟨p', h, _⟩ := h
  exact objectOf_any h hm (-1) (by omega) (by omega)
end

set_option maxHeartbeats 4000000 in
set_option maxRecDepth 100000 in
theorem take_ins_old {B : Nat} {T : Nat → Nat} {w : World} {r : Nat} {S : Sts} (h : ImplAt B T w r S) (hS : S.WF) (hB : B ≤ w.heap.size) (hm : S.homes.length ≤ 900) (k : Nat) (hk : k < S.regs.length) (ix : Int) (nm : ByteArray) (hnm : nm.size ≤ maxLen) (hf : 0 ≤ findI (S.reg k).names (S.reg k).objs nm) :
    Calls Try.prog 22 #[.pointer (some ⟨r, 0, none⟩), stpV ⟨1, k, nm, ix⟩] w (TakePost B T w r (findI (S.reg k).names (S.reg k).objs nm, []) ⟨S.regs, S.homes ++ [-1]⟩) := by
  obtain ⟨la, oa, lc, oc, p, h⟩ := h
  have HR := Lib.hid h
  have HSW := Lib.hid hS
  have c1 := h.cell1
  have hrs : r < w.heap.size := World.block_lt_of_cell? w _ c1
  have HT : Hid (∀ b, T b ≠ 0 → b < w.heap.size) := Lib.hid (fun b e => (h.fresh b e).2)
  have HA : Hid (scopeA S p.sb k = some ⟨p.sb k, 0, none⟩) := by
    refine Lib.hid ?_
    unfold scopeA
    rw [if_pos ⟨Int.natCast_nonneg k, by omega⟩, parA_nat]
  have HF : Hid (0 ≤ findI (S.reg k).names (S.reg k).objs nm ∧ findI (S.reg k).names (S.reg k).objs nm < S.homes.length) := Lib.hid ⟨hf, (hS.objs k hk _ (findI_mem nm _ _ (hS.len k hk) ((Sts.found_iff hS hk nm).1 hf))).2⟩
  obtain ⟨i0, hi, hz0, hz1, hz2⟩ := info_parts info84
  have HRS : Hid (ImplRep B T (stW w 1 k ix nm) r S la oa lc oc p) := Lib.hid (h.chg (M := fun _ => False) (by repeat (first | exact Chg.refl _ _ | apply Chg.alloc | apply Chg.drew | apply Chg.drewN | (refine Chg.setCell ?_ (by first | exact .inl rfl | exact .inr (by first | (simp; done) | (simp; omega) | omega)) _) | fail)) (fun _ f => f.elim))
  clear h hS hf
  unfold stpV
  go_enter Try.func22, Try.ntmps22
  go_wp2_with (go_at_call 31; refine (scope_any (HR.out.chg (M := fun _ => False) (by repeat (first | exact Chg.refl _ _ | apply Chg.alloc | apply Chg.drew | apply Chg.drewN | (refine Chg.setCell ?_ (by first | exact .inl rfl | exact .inr (by first | (simp; done) | (simp; omega) | omega)) _) | fail)) (fun _ f => f.elim)) _).mono ?_; rintro e w' ⟨rfl, rfl⟩; rw [HA.out])
  go_region_held3 (fun w' : World => w'.cell? ⟨w.heap.size, 2, none⟩ = some (.string nm)) (first | (go_simp; done) | exact n2) (first
    | (go_at_call 33; refine (typ_at _).mono ?_; rintro e w1 ⟨a, rfl, hch1⟩; have n2 : w1.cell? ⟨w.heap.size, 2, none⟩ = some (.string nm) := hch1.cell (by go_simp) (fun f => f); have hk1 : Chg (fun _ => False) (stW w 1 k ix nm) w1 := Chg.trans (M := fun _ => False) (by repeat (first | exact Chg.refl _ _ | apply Chg.alloc | apply Chg.drew | apply Chg.drewN | (refine Chg.setCell ?_ (by first | exact .inl rfl | exact .inr (by first | (simp; done) | (simp; omega) | omega)) _) | fail)) hch1 (fun _ f => f.elim); have hw1 : w.heap.size + 1 + 1 ≤ w1.heap.size := (by have := hk1.size; simpa using this); have cr1 : w1.cell? ⟨r, 1, none⟩ = some (.slice oa S.homes.length oc) := hk1.cell (by go_simp) (fun f => f); have hrw : r < w1.heap.size := (by omega); have hsw : w.heap.size < w1.heap.size := (by omega); have HK1 := Lib.hid hk1; clear hch1 hk1)
    | (go_at_call 32; refine (newVar_any nm a _).mono ?_; rintro e w2 ⟨rfl, rfl⟩))
  go_wp2_with (first
    | (at_builtin; refine wpList_append_lies _ rfl _ _ 58 rfl B 84 i0 .nilIface 1 16 Try.underlying58 hi hz0 hz1 hz2 rfl (by omega) (.slice oa S.homes.length oc) S.homes.length _ rfl (Chg.row (M := fun _ => False) ((HK1.out.alloc _).alloc _) HRS.out.orow (fun _ _ f => f)) ⟨w1.heap.size + 1, 0, none⟩ 1 1 [.iface 77 (.pointer (some ⟨w1.heap.size, 0, none⟩))] rfl rfl (news_one (w1.alloc _) _ _ _ (by simp)) (by simp [Value.oneCell']) (by omega) (by unfold maxLen; omega) (by omega) (by simp; omega) _ rfl ?_; intro g1 c1' w3 hown hgrow hat hlt3; have hmo := HRS.out.moreObj HSW.out ((HK1.out.alloc _).alloc _) (oN := w1.heap.size) (nm := nm) (a := a) (by simp; omega) ((Below.heap_alloc _ _ _ (by simp)).trans (heap_alloc_new w1 _)) hgrow (by simp; omega) hown hat; have k1 : Chg (fun b => T b = 3) (stW w 1 k ix nm) w3 := Chg.grown (((HK1.out.mono (fun _ f => f.elim)).alloc _).alloc _) hgrow (fun i e => .inl (HR.out.tob i e)); have ht := k1.heapAt HRS.out.top (by rw [HR.out.tr]; decide); have cr2 := cell_of_row w3 r 1 _ 60 (0, 0) ht; have fr2 := frozen_of_row w3 r 1 _ 60 ht; have ⟨c30, c31, c32, c33, c40, c41, f40, f41, hsz⟩ := step_cells 1 k ix nm HT.out (Chg.refl _ _) (k1.mono (M' := fun b => T b ≠ 0) (fun b e => .inl (by rw [e]; decide))); have HMO := Lib.hid hmo; clear hmo hown hgrow hat k1 ht)
    | (go_at_call 35; refine (call_ins_old HMO.out.1 HSW.out.moreHomes hk hnm HMO.out.2.1 HF.out.1).mono ?_; rintro e w' ⟨rfl, rfl⟩)
    | (go_at_call 34; refine (objectOf_any HMO.out.1 (by simp; omega) (findI (S.reg k).names (S.reg k).objs nm) (by have := HF.out.1; omega) (by have := HF.out.2; simp; omega)).mono ?_; rintro e w' ⟨rfl, rfl⟩))
  refine bodyPost_ret_by (v := (.agg #[.int .i64 (findI (S.reg k).names (S.reg k).objs nm), .slice none 0 0])) (by rw [results_cell1 (by rfl)]; go_simp) rfl ?_
  exact take_end HT.out ⟨_, ⟨_, _, _, _, _, HMO.out.1⟩, HMO.out.2.2.1, HMO.out.2.2.2⟩ (by repeat (first | exact Chg.refl _ _ | apply Chg.alloc | apply Chg.drew | apply Chg.drewN | (refine Chg.setCell ?_ (by first | exact .inl rfl | exact .inr (by first | (simp; done) | (simp; omega) | omega)) _) | fail))
set_option maxHeartbeats 4000000 in
set_option maxRecDepth 100000 in
theorem take_ins_new {B : Nat} {T : Nat → Nat} {w : World} {r : Nat} {S : Sts} (h : ImplAt B T w r S) (hS : S.WF) (hB : B ≤ w.heap.size) (hm : S.homes.length ≤ 900) (k : Nat) (hk : k < S.regs.length) (ix : Int) (nm : ByteArray) (hnm : nm.size ≤ maxLen) (hf : findI (S.reg k).names (S.reg k).objs nm < 0) :
    Calls Try.prog 22 #[.pointer (some ⟨r, 0, none⟩), stpV ⟨1, k, nm, ix⟩] w (TakePost B T w r (-1, []) ⟨S.regs.set k { S.reg k with names := (S.reg k).names ++ [nm], objs := (S.reg k).objs ++ [(S.homes.length : Int)] }, S.homes ++ [(k : Int)]⟩) := by
  obtain ⟨la, oa, lc, oc, p, h⟩ := h
  have HR := Lib.hid h
  have HSW := Lib.hid hS
  have c1 := h.cell1
  have hrs : r < w.heap.size := World.block_lt_of_cell? w _ c1
  have HT : Hid (∀ b, T b ≠ 0 → b < w.heap.size) := Lib.hid (fun b e => (h.fresh b e).2)
  have HA : Hid (scopeA S p.sb k = some ⟨p.sb k, 0, none⟩) := by
    refine Lib.hid ?_
    unfold scopeA
    rw [if_pos ⟨Int.natCast_nonneg k, by omega⟩, parA_nat]
  have HF := Lib.hid hf
  obtain ⟨i0, hi, hz0, hz1, hz2⟩ := info_parts info84
  have HRS : Hid (ImplRep B T (stW w 1 k ix nm) r S la oa lc oc p) := Lib.hid (h.chg (M := fun _ => False) (by repeat (first | exact Chg.refl _ _ | apply Chg.alloc | apply Chg.drew | apply Chg.drewN | (refine Chg.setCell ?_ (by first | exact .inl rfl | exact .inr (by first | (simp; done) | (simp; omega) | omega)) _) | fail)) (fun _ f => f.elim))
  clear h hS hf
  unfold stpV
  go_enter Try.func22, Try.ntmps22
  go_wp2_with (go_at_call 31; refine (scope_any (HR.out.chg (M := fun _ => False) (by repeat (first | exact Chg.refl _ _ | apply Chg.alloc | apply Chg.drew | apply Chg.drewN | (refine Chg.setCell ?_ (by first | exact .inl rfl | exact .inr (by first | (simp; done) | (simp; omega) | omega)) _) | fail)) (fun _ f => f.elim)) _).mono ?_; rintro e w' ⟨rfl, rfl⟩; rw [HA.out])
  go_region_held3 (fun w' : World => w'.cell? ⟨w.heap.size, 2, none⟩ = some (.string nm)) (first | (go_simp; done) | exact n2) (first
    | (go_at_call 33; refine (typ_at _).mono ?_; rintro e w1 ⟨a, rfl, hch1⟩; have n2 : w1.cell? ⟨w.heap.size, 2, none⟩ = some (.string nm) := hch1.cell (by go_simp) (fun f => f); have hk1 : Chg (fun _ => False) (stW w 1 k ix nm) w1 := Chg.trans (M := fun _ => False) (by repeat (first | exact Chg.refl _ _ | apply Chg.alloc | apply Chg.drew | apply Chg.drewN | (refine Chg.setCell ?_ (by first | exact .inl rfl | exact .inr (by first | (simp; done) | (simp; omega) | omega)) _) | fail)) hch1 (fun _ f => f.elim); have hw1 : w.heap.size + 1 + 1 ≤ w1.heap.size := (by have := hk1.size; simpa using this); have cr1 : w1.cell? ⟨r, 1, none⟩ = some (.slice oa S.homes.length oc) := hk1.cell (by go_simp) (fun f => f); have hrw : r < w1.heap.size := (by omega); have hsw : w.heap.size < w1.heap.size := (by omega); have HK1 := Lib.hid hk1; clear hch1 hk1)
    | (go_at_call 32; refine (newVar_any nm a _).mono ?_; rintro e w2 ⟨rfl, rfl⟩))
  go_wp2_with (first
    | (at_builtin; refine wpList_append_lies _ rfl _ _ 58 rfl B 84 i0 .nilIface 1 16 Try.underlying58 hi hz0 hz1 hz2 rfl (by omega) (.slice oa S.homes.length oc) S.homes.length _ rfl (Chg.row (M := fun _ => False) ((HK1.out.alloc _).alloc _) HRS.out.orow (fun _ _ f => f)) ⟨w1.heap.size + 1, 0, none⟩ 1 1 [.iface 77 (.pointer (some ⟨w1.heap.size, 0, none⟩))] rfl rfl (news_one (w1.alloc _) _ _ _ (by simp)) (by simp [Value.oneCell']) (by omega) (by unfold maxLen; omega) (by omega) (by simp; omega) _ rfl ?_; intro g1 c1' w3 hown hgrow hat hlt3; have hmo := HRS.out.moreObj HSW.out ((HK1.out.alloc _).alloc _) (oN := w1.heap.size) (nm := nm) (a := a) (by simp; omega) ((Below.heap_alloc _ _ _ (by simp)).trans (heap_alloc_new w1 _)) hgrow (by simp; omega) hown hat; have k1 : Chg (fun b => T b = 3) (stW w 1 k ix nm) w3 := Chg.grown (((HK1.out.mono (fun _ f => f.elim)).alloc _).alloc _) hgrow (fun i e => .inl (HR.out.tob i e)); have ht := k1.heapAt HRS.out.top (by rw [HR.out.tr]; decide); have cr2 := cell_of_row w3 r 1 _ 60 (0, 0) ht; have fr2 := frozen_of_row w3 r 1 _ 60 ht; have ⟨c30, c31, c32, c33, c40, c41, f40, f41, hsz⟩ := step_cells 1 k ix nm HT.out (Chg.refl _ _) (k1.mono (M' := fun b => T b ≠ 0) (fun b e => .inl (by rw [e]; decide))); have HMO := Lib.hid hmo; clear hmo hown hgrow hat k1 ht)
    | (go_at_call 35; refine (call_ins_new HMO.out.1 HSW.out.moreHomes hk hnm (o := S.homes.length) (by simp) (if_pos rfl) HMO.out.2.1 HF.out (by simp; omega)).mono ?_; rintro e w5 ⟨rfl, mb, q1, q2, q3, q4, q5, q6⟩; have hmn := HMO.out.1.moreName (hs := S.homes) rfl hk (by have := HMO.out.2.2.1.size; simp at this; simp [World.setCell] at this ⊢; omega) q1 q2 q3 q4 q5 q6; have k5 : Chg (fun b => T b ≠ 0) (stW w 1 k ix nm) w5 := HMO.out.2.2.1.trans (by obtain ⟨_, _, m, _⟩ := hmn; exact m) HMO.out.2.2.2; have ⟨d30, d31, d32, d33, d40, d41, g40, g41, hsz5⟩ := step_cells 1 k ix nm HT.out (Chg.refl _ _) k5; have HMN := Lib.hid hmn; have HK5 := Lib.hid k5; clear hmn k5 q1 q2 q3 q4 q5 q6)
    | (go_at_call 34; refine (ins_none HMN.out (by simp; omega)).mono ?_; rintro e w' ⟨rfl, rfl⟩))
  refine bodyPost_ret_by (v := (.agg #[.int .i64 (-1), .slice none 0 0])) (by rw [results_cell1 (by rfl)]; go_simp) rfl ?_
  obtain ⟨p', m1, m2, m3⟩ := HMN.out
  exact take_end HT.out ⟨_, ⟨_, _, _, _, _, m1⟩, HK5.out, HMO.out.2.2.2.trans m3 HMO.out.2.2.1.size⟩ (by repeat (first | exact Chg.refl _ _ | apply Chg.alloc | apply Chg.drew | apply Chg.drewN | (refine Chg.setCell ?_ (by first | exact .inl rfl | exact .inr (by first | (simp; done) | (simp; omega) | omega)) _) | fail))
end Go.Proofs.Ytipmpeekfajlcaa
