/- The walk of the program's take: an object's home. -/
import Derived.Test.YtipmpeekfajlcaaTake
namespace Go.Proofs.Ytipmpeekfajlcaa
open Go.RowKit

set_option maxHeartbeats 4000000 in
set_option maxRecDepth 100000 in
theorem take_home {B : Nat} {T : Nat → Nat} {w : World} {r : Nat} {S : Sts} (h : ImplAt B T w r S) (hS : S.WF) (sc : Int) (i : Nat) (hi : i < S.homes.length) (nm : ByteArray) :
    Calls Try.prog 22 #[.pointer (some ⟨r, 0, none⟩), stpV ⟨8, sc, nm, i⟩] w (TakePost B T w r (S.homes.getD i 0, []) S) := by
  have HS := Lib.hid h
  obtain ⟨la, oa, lc, oc, p, h⟩ := h
  have HR := Lib.hid h
  have h30 := hS.regs30
  obtain ⟨x, hx⟩ : ∃ x, S.homes.getD i 0 = x := ⟨_, rfl⟩
  have hx2 : S.homes.getD i (-1) = x := by
    rw [← hx, List.getD_eq_getElem?_getD, List.getD_eq_getElem?_getD, List.getElem?_eq_getElem hi]
    rfl
  have hxb : -1 ≤ x ∧ x < S.regs.length := by
    rw [← hx, List.getD_eq_getElem?_getD, List.getElem?_eq_getElem hi]
    exact hS.homes _ (List.getElem_mem hi)
  obtain ⟨g, gc, hke, _, hgl⟩ := h.orow.form (by omega)
  have hrow := h.orow
  have c1 := h.cell1
  rw [hke] at c1 hrow
  have hcell : w.cell? ⟨g, i, none⟩ = some (.iface 77 (.pointer (some ⟨p.ob i, 0, none⟩))) := by
    rw [hrow.cellAt i (by omega), List.getElem?_map, List.getElem?_range hi]
    rfl
  have hob : w.cell? ⟨p.ob i, 0, none⟩ = some (.pointer (parA p.sb x)) := by
    rw [cell_of_row w _ 0 _ 105 (0, 0) (h.obj i hi).1, (h.obj i hi).2, hx2]
  have hobl : p.ob i < w.heap.size := World.block_lt_of_cell? w _ hob
  have hrs : r < w.heap.size := World.block_lt_of_cell? w _ c1
  have hi1 : (i : Int) < (S.homes.length : Int) := by omega
  have hi0 : (0 : Int) ≤ (i : Int) := by omega
  have hrs1 : r < w.heap.size + 1 := by omega
  have hgs1 : g < w.heap.size + 1 := by omega
  have hos1 : p.ob i < w.heap.size + 1 := by omega
  rw [hx]
  clear h hke hrow hx hx2
  generalize hsa : scopeA S p.sb sc = sa
  have HA := Lib.hid hsa
  clear hsa
  unfold stpV
  go_enter Try.func22, Try.ntmps22
  go_wp2_with (go_at_call 31; refine (scope_any (HR.out.chg (M := fun _ => False) (by repeat (first | exact Chg.refl _ _ | apply Chg.alloc | apply Chg.drew | apply Chg.drewN | (refine Chg.setCell ?_ (by first | exact .inl rfl | exact .inr (by first | (simp; done) | (simp; omega) | omega)) _) | fail)) (fun _ f => f.elim)) _).mono ?_; rintro e w' ⟨rfl, rfl⟩; rw [HA.out])
  go_region_held3 (fun w' : World => w'.cell? ⟨r, 1, none⟩ = some (.slice (some ⟨g, 0, none⟩) S.homes.length gc) ∧ w'.cell? ⟨w.heap.size, 3, none⟩ = some (.int .i64 i) ∧ w'.cell? ⟨g, i, none⟩ = some (.iface 77 (.pointer (some ⟨p.ob i, 0, none⟩)))) (first | exact ⟨by go_simp, by go_simp, by go_simp⟩)
    (first
      | (go_at_call 82; refine (home_at (p.ob i) (parA p.sb x) _ (by go_simp)).mono ?_; rintro e w' ⟨rfl, rfl⟩)
      | (go_at_call 39; refine (numberOf_any (HR.out.chg (M := fun _ => False) (by repeat (first | exact Chg.refl _ _ | apply Chg.alloc | apply Chg.drew | apply Chg.drewN | (refine Chg.setCell ?_ (by first | exact .inl rfl | exact .inr (by first | (simp; done) | (simp; omega) | omega)) _) | fail)) (fun _ f => f.elim)) (by omega) x hxb.1 hxb.2).mono ?_; rintro e w' ⟨rfl, rfl⟩))
  all_goals
    go_wp2
    refine bodyPost_ret_by (v := (.agg #[.int .i64 x, .slice none 0 0])) (by rw [results_cell1 (by rfl)]; go_simp) rfl ?_
    exact take_num HS.out (by repeat (first | exact Chg.refl _ _ | apply Chg.alloc | apply Chg.drew | apply Chg.drewN | (refine Chg.setCell ?_ (by first | exact .inl rfl | exact .inr (by first | (simp; done) | (simp; omega) | omega)) _) | fail))
end Go.Proofs.Ytipmpeekfajlcaa
