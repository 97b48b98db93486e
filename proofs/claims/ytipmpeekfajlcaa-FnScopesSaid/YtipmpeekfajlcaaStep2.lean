/- The walk of the reference's step: the kinds that insert, look up, and none. -/
import Derived.Test.YtipmpeekfajlcaaStep
import Derived.Test.YtipmpeekfajlcaaIsName
namespace Go.Proofs.Ytipmpeekfajlcaa
open Go.RowKit

set_option maxHeartbeats 4000000 in
set_option maxRecDepth 100000 in
theorem step_find {B : Nat} {T : Nat → Nat} {w : World} {r : Nat} {S : Sts} (h : SpecAt B T w r S) (k : Nat) (hk : k < S.regs.length) (ix : Int) (nm : ByteArray) (hS : S.WF) (hm : S.homes.length ≤ 900) (hnm : nm.size ≤ maxLen) :
    Calls Try.prog 21 #[.pointer (some ⟨r, 0, none⟩), stpV ⟨2, k, nm, ix⟩] w (StepPost B T w r S ⟨2, k, nm, ix⟩) := by
  have HS := Lib.hid h
  have hh : S.has (k : Int) := ⟨Int.natCast_nonneg k, by omega⟩
  have HH : Hid (hasB S k = true) := Lib.hid (decide_eq_true hh)
  have HE : Hid (stepS S ⟨2, k, nm, ix⟩ = some ((findI (S.reg k).names (S.reg k).objs nm, []), S)) := by
    refine Lib.hid ?_
    unfold stepS
    simp [hh]
  obtain ⟨lv, hv, nv, ov, h⟩ := h
  obtain ⟨na, nc, hn⟩ := row_shape (h.nrow k hk)
  obtain ⟨oa, oc, ho⟩ := row_shape (h.orow k hk)
  obtain ⟨g, cap, rfl, c2, c3, c4, hgs⟩ := h.at hk
  rw [hn] at c3
  rw [ho] at c4
  have c0 := h.cell0
  have hrs : r < w.heap.size := h.fresh r (by rw [h.tr]; decide)
  have hkI : (k : Int) < (S.regs.length : Int) := by omega
  have hrs1 : r < w.heap.size + 1 := by omega
  have hrs2 : r < w.heap.size + 1 + 1 := by omega
  have hgs1 : g < w.heap.size + 1 := by omega
  have hgs2 : g < w.heap.size + 1 + 1 := by omega
  have HT : Hid (∀ b, T b ≠ 0 → b < w.heap.size) := Lib.hid h.fresh
  have HNR : Hid (w.ownsRow B 9 1 (.slice na (S.reg k).names.length nc) (S.reg k).names.length ((S.reg k).names.map .string)) := Lib.hid (by rw [← hn]; exact h.nrow k hk)
  obtain ⟨fi, hf⟩ : ∃ fi, findI (S.reg k).names (S.reg k).objs nm = fi := ⟨_, rfl⟩
  rw [hf] at HE
  have HF := Lib.hid hf
  clear hf
  clear h hh hn ho
  unfold stpV
  go_enter Try.func21, Try.ntmps21
  go_wp2_with (go_at_call 26; refine (has_any (HS.out.chg (M := fun _ => False) (by repeat (first | exact Chg.refl _ _ | apply Chg.alloc | apply Chg.drew | apply Chg.drewN | (refine Chg.setCell ?_ (by first | exact .inl rfl | exact .inr (by first | (simp; done) | (simp; omega) | omega)) _) | fail)) (fun _ f => f.elim)) _).mono ?_; rintro e w' ⟨rfl, rfl⟩; rw [HH.out])
  go_region
  go_wp2_with fail
  go_region_held3 (fun w' : World => w'.cell? ⟨w.heap.size, 1, none⟩ = some (.int .i64 k) ∧ w'.cell? ⟨w.heap.size, 2, none⟩ = some (.string nm)) (first | exact ⟨by go_simp, by go_simp⟩) (first | (go_at_call 28; refine (find_as (HS.out.chg (M := fun _ => False) (by repeat (first | exact Chg.refl _ _ | apply Chg.alloc | apply Chg.drew | apply Chg.drewN | (refine Chg.setCell ?_ (by first | exact .inl rfl | exact .inr (by first | (simp; done) | (simp; omega) | omega)) _) | fail)) (fun _ f => f.elim)) hS (by omega) k hk nm fi HF.out).mono ?_; rintro e w' ⟨rfl, rfl⟩) | (go_at_call 7; refine (isName_any nm _ hnm).mono ?_; rintro e w' ⟨bn, rfl, rfl⟩))
  go_wp2
  refine bodyPost_ret_by (v := (.tuple #[.agg #[.int .i64 fi, .slice none 0 0], .bool bn])) (by rw [results_cell_tmp (by rfl)]; go_simp) rfl ?_
  exact step_num HS.out (by repeat (first | exact Chg.refl _ _ | apply Chg.alloc | apply Chg.drew | apply Chg.drewN | (refine Chg.setCell ?_ (by first | exact .inl rfl | exact .inr (by first | (simp; done) | (simp; omega) | omega)) _) | fail)) HE.out

set_option maxHeartbeats 4000000 in
set_option maxRecDepth 100000 in
theorem step_insert_t {B : Nat} {T : Nat → Nat} {w : World} {r : Nat} {S : Sts} (h : SpecAt B T w r S) (k : Nat) (hk : k < S.regs.length) (ix : Int) (nm : ByteArray) (hS : S.WF) (hB : B ≤ w.heap.size) (hm : S.homes.length ≤ 900) (hnm : nm.size ≤ maxLen) (hbn : nmB nm = true) :
    Calls Try.prog 21 #[.pointer (some ⟨r, 0, none⟩), stpV ⟨1, k, nm, ix⟩] w (StepPost B T w r S ⟨1, k, nm, ix⟩) := by
  have HS := Lib.hid h
  have hh : S.has (k : Int) := ⟨Int.natCast_nonneg k, by omega⟩
  have HH : Hid (hasB S k = true) := Lib.hid (decide_eq_true hh)
  have HE : Hid (stepS S ⟨1, k, nm, ix⟩ = some ((S.old k nm, []), S.insert k nm)) := by
    refine Lib.hid ?_
    unfold stepS
    simp [hh]
  obtain ⟨lv, hv, nv, ov, h⟩ := h
  obtain ⟨na, nc, hn⟩ := row_shape (h.nrow k hk)
  obtain ⟨oa, oc, ho⟩ := row_shape (h.orow k hk)
  obtain ⟨g, cap, rfl, c2, c3, c4, hgs⟩ := h.at hk
  rw [hn] at c3
  rw [ho] at c4
  have c0 := h.cell0
  have hrs : r < w.heap.size := h.fresh r (by rw [h.tr]; decide)
  have hkI : (k : Int) < (S.regs.length : Int) := by omega
  have hrs1 : r < w.heap.size + 1 := by omega
  have hrs2 : r < w.heap.size + 1 + 1 := by omega
  have hgs1 : g < w.heap.size + 1 := by omega
  have hgs2 : g < w.heap.size + 1 + 1 := by omega
  have HT : Hid (∀ b, T b ≠ 0 → b < w.heap.size) := Lib.hid h.fresh
  have HNR : Hid (w.ownsRow B 9 1 (.slice na (S.reg k).names.length nc) (S.reg k).names.length ((S.reg k).names.map .string)) := Lib.hid (by rw [← hn]; exact h.nrow k hk)
  have HBN := Lib.hid hbn
  clear hbn
  clear h hh hn ho
  unfold stpV
  go_enter Try.func21, Try.ntmps21
  go_wp2_with (go_at_call 26; refine (has_any (HS.out.chg (M := fun _ => False) (by repeat (first | exact Chg.refl _ _ | apply Chg.alloc | apply Chg.drew | apply Chg.drewN | (refine Chg.setCell ?_ (by first | exact .inl rfl | exact .inr (by first | (simp; done) | (simp; omega) | omega)) _) | fail)) (fun _ f => f.elim)) _).mono ?_; rintro e w' ⟨rfl, rfl⟩; rw [HH.out])
  go_region
  go_wp2_with fail
  go_region_held3 (fun w' : World => w'.cell? ⟨w.heap.size, 1, none⟩ = some (.int .i64 k) ∧ w'.cell? ⟨w.heap.size, 2, none⟩ = some (.string nm)) (first | exact ⟨by go_simp, by go_simp⟩ | exact ⟨c31, c32⟩) (first | (go_at_call 27; refine (inserted_any (B := B) (T := T) (HS.out.chg (M := fun _ => False) (by repeat (first | exact Chg.refl _ _ | apply Chg.alloc | apply Chg.drew | apply Chg.drewN | (refine Chg.setCell ?_ (by first | exact .inl rfl | exact .inr (by first | (simp; done) | (simp; omega) | omega)) _) | fail)) (fun _ f => f.elim)) hS (by simp; omega) hm k hk nm).mono ?_; rintro e w1 ⟨rfl, T', hsp, hch, hext⟩; have ⟨c30, c31, c32, c33, c40, c41, f40, f41, hsz⟩ := step_cells 1 k ix nm HT.out (by repeat (first | exact Chg.refl _ _ | apply Chg.alloc | apply Chg.drew | apply Chg.drewN | (refine Chg.setCell ?_ (by first | exact .inl rfl | exact .inr (by first | (simp; done) | (simp; omega) | omega)) _) | fail)) hch; have HSP := Lib.hid hsp; have HCH := Lib.hid hch; have HX := Lib.hid hext; clear hsp hch hext) | (go_at_call 7; refine (isName_one nm _ hnm).mono ?_; rintro e w' ⟨rfl, rfl⟩; rw [HBN.out]))
  go_wp2
  refine bodyPost_ret_by (v := (.tuple #[.agg #[.int .i64 (S.old k nm), .slice none 0 0], .bool (!(nm.toList == [95]))])) (by rw [results_cell_tmp (by rfl)]; go_simp) rfl ?_
  exact step_set 1 k ix nm HT.out (by repeat (first | exact Chg.refl _ _ | apply Chg.alloc | apply Chg.drew | apply Chg.drewN | (refine Chg.setCell ?_ (by first | exact .inl rfl | exact .inr (by first | (simp; done) | (simp; omega) | omega)) _) | fail)) HCH.out HX.out HSP.out (by repeat (first | exact Chg.refl _ _ | apply Chg.alloc | apply Chg.drew | apply Chg.drewN | (refine Chg.setCell ?_ (by first | exact .inl rfl | exact .inr (by first | (simp; done) | (simp; omega) | omega)) _) | fail)) (fun _ => HE.out)

set_option maxHeartbeats 4000000 in
set_option maxRecDepth 100000 in
theorem step_insert_f {B : Nat} {T : Nat → Nat} {w : World} {r : Nat} {S : Sts} (h : SpecAt B T w r S) (k : Nat) (hk : k < S.regs.length) (ix : Int) (nm : ByteArray) (hS : S.WF) (hB : B ≤ w.heap.size) (hm : S.homes.length ≤ 900) (hnm : nm.size ≤ maxLen) (hbn : nmB nm = false) :
    Calls Try.prog 21 #[.pointer (some ⟨r, 0, none⟩), stpV ⟨1, k, nm, ix⟩] w (StepPost B T w r S ⟨1, k, nm, ix⟩) := by
  have HS := Lib.hid h
  have hh : S.has (k : Int) := ⟨Int.natCast_nonneg k, by omega⟩
  have HH : Hid (hasB S k = true) := Lib.hid (decide_eq_true hh)
  have HE : Hid (stepS S ⟨1, k, nm, ix⟩ = some ((S.old k nm, []), S.insert k nm)) := by
    refine Lib.hid ?_
    unfold stepS
    simp [hh]
  obtain ⟨lv, hv, nv, ov, h⟩ := h
  obtain ⟨na, nc, hn⟩ := row_shape (h.nrow k hk)
  obtain ⟨oa, oc, ho⟩ := row_shape (h.orow k hk)
  obtain ⟨g, cap, rfl, c2, c3, c4, hgs⟩ := h.at hk
  rw [hn] at c3
  rw [ho] at c4
  have c0 := h.cell0
  have hrs : r < w.heap.size := h.fresh r (by rw [h.tr]; decide)
  have hkI : (k : Int) < (S.regs.length : Int) := by omega
  have hrs1 : r < w.heap.size + 1 := by omega
  have hrs2 : r < w.heap.size + 1 + 1 := by omega
  have hgs1 : g < w.heap.size + 1 := by omega
  have hgs2 : g < w.heap.size + 1 + 1 := by omega
  have HT : Hid (∀ b, T b ≠ 0 → b < w.heap.size) := Lib.hid h.fresh
  have HNR : Hid (w.ownsRow B 9 1 (.slice na (S.reg k).names.length nc) (S.reg k).names.length ((S.reg k).names.map .string)) := Lib.hid (by rw [← hn]; exact h.nrow k hk)
  have HBN := Lib.hid hbn
  clear hbn
  clear h hh hn ho
  unfold stpV
  go_enter Try.func21, Try.ntmps21
  go_wp2_with (go_at_call 26; refine (has_any (HS.out.chg (M := fun _ => False) (by repeat (first | exact Chg.refl _ _ | apply Chg.alloc | apply Chg.drew | apply Chg.drewN | (refine Chg.setCell ?_ (by first | exact .inl rfl | exact .inr (by first | (simp; done) | (simp; omega) | omega)) _) | fail)) (fun _ f => f.elim)) _).mono ?_; rintro e w' ⟨rfl, rfl⟩; rw [HH.out])
  go_region
  go_wp2_with fail
  rename_i KQ hKQ
  have HQ := Lib.hid hKQ
  clear hKQ
  refine wp_region_noPanic ?_
  refine wp_region_late (S := fun w' => w'.cell? ⟨w.heap.size, 1, none⟩ = some (.int .i64 k) ∧ w'.cell? ⟨w.heap.size, 2, none⟩ = some (.string nm)) [] (by kernel_rfl) ?_
  refine wpAnyE_pure (i := 0) (v := ?_) rfl rfl (by kernel_rfl) (fun _ _ _ h => h) (Or.inl ⟨by rfl, ?_⟩) (fun _ => (by first | exact ⟨by go_simp, by go_simp⟩ | exact ⟨c31, c32⟩)) ?_
  rotate_left
  · intro w' hSw; go_simp; first | done | with_reducible rfl
  simp only [Act.put, List.setIfInBounds_toArray, List.set_cons_zero, List.set_cons_succ]
  refine wpAnyE_pure (i := 1) (v := ?_) rfl rfl (by kernel_rfl) (fun _ _ _ h => h) (Or.inl ⟨by rfl, ?_⟩) (fun _ => (by first | exact ⟨by go_simp, by go_simp⟩ | exact ⟨c31, c32⟩)) ?_
  rotate_left
  · intro w' hSw; go_simp; first | done | with_reducible rfl
  simp only [Act.put, List.setIfInBounds_toArray, List.set_cons_zero, List.set_cons_succ]
  refine wpAnyE_taken (i := 2) (v := ?_) rfl rfl (by kernel_rfl) (fun _ _ _ h => h) (Or.inl ⟨by rfl, ?_⟩) (by first | exact ⟨by go_simp, by go_simp⟩ | exact ⟨c31, c32⟩) ?_
  rotate_left
  · intro w' hSw; (try dsimp only at hSw); go_simp; first | done | with_reducible rfl
  simp only [Act.put, List.setIfInBounds_toArray, List.set_cons_zero, List.set_cons_succ]
  refine wpAnyE_pure (i := 3) (v := ?_) rfl rfl (by kernel_rfl) (fun _ _ _ h => h) (Or.inl ⟨by rfl, ?_⟩) (fun _ => (by first | exact ⟨by go_simp, by go_simp⟩ | exact ⟨c31, c32⟩)) ?_
  rotate_left
  · intro w' hSw; go_simp; first | done | with_reducible rfl
  simp only [Act.put, List.setIfInBounds_toArray, List.set_cons_zero, List.set_cons_succ]
  refine wpAnyE_taken (i := 4) (v := ?_) rfl rfl (by kernel_rfl) (fun _ _ _ h => h) (Or.inl ⟨by rfl, ?_⟩) (by first | exact ⟨by go_simp, by go_simp⟩ | exact ⟨c31, c32⟩) ?_
  rotate_left
  · intro w' hSw; (try dsimp only at hSw); go_simp; first | done | with_reducible rfl
  simp only [Act.put, List.setIfInBounds_toArray, List.set_cons_zero, List.set_cons_succ]
  refine wpAnyE_pure (i := 7) (v := ?_) rfl rfl (by kernel_rfl) (fun _ _ _ h => h) (Or.inl ⟨by rfl, ?_⟩) (fun _ => (by first | exact ⟨by go_simp, by go_simp⟩ | exact ⟨c31, c32⟩)) ?_
  rotate_left
  · intro w' hSw; go_simp; first | done | with_reducible rfl
  simp only [Act.put, List.setIfInBounds_toArray, List.set_cons_zero, List.set_cons_succ]
  refine wpAnyE_taken (i := 8) (v := ?_) rfl rfl (by kernel_rfl) (fun _ _ _ h => h) (Or.inl ⟨by rfl, ?_⟩) (by first | exact ⟨by go_simp, by go_simp⟩ | exact ⟨c31, c32⟩) ?_
  rotate_left
  · intro w' hSw; (try dsimp only at hSw); go_simp; first | done | with_reducible rfl
  simp only [Act.put, List.setIfInBounds_toArray, List.set_cons_zero, List.set_cons_succ]
  refine wpAnyE_ready (rs := [5]) (by kernel_rfl) (by simp) ?_
  refine AllReadyE.next rfl (fun K hK => ?_) AllReadyE.nil
  have HK := Lib.hid hK
  clear hK
  go_simp
  go_at_call 27
  refine (inserted_any (B := B) (T := T) (HS.out.chg (M := fun _ => False) (by repeat (first | exact Chg.refl _ _ | apply Chg.alloc | apply Chg.drew | apply Chg.drewN | (refine Chg.setCell ?_ (by first | exact .inl rfl | exact .inr (by first | (simp; done) | (simp; omega) | omega)) _) | fail)) (fun _ f => f.elim)) hS (by simp; omega) hm k hk nm).mono ?_
  rintro e w1 ⟨rfl, T', hsp, hch, hext⟩
  have ⟨c30, c31, c32, c33, c40, c41, f40, f41, hsz⟩ := step_cells 1 k ix nm HT.out (by repeat (first | exact Chg.refl _ _ | apply Chg.alloc | apply Chg.drew | apply Chg.drewN | (refine Chg.setCell ?_ (by first | exact .inl rfl | exact .inr (by first | (simp; done) | (simp; omega) | omega)) _) | fail)) hch
  have HSP := Lib.hid hsp
  have HCH := Lib.hid hch
  have HX := Lib.hid hext
  clear hsp hch hext
  refine HK.out _ _ (fun _ => ⟨c31, c32⟩) ?_
  clear HK K
  try simp only [Act.put, List.setIfInBounds_toArray, List.set_cons_zero, List.set_cons_succ]
  refine wpAnyE_pure (i := 6) (v := ?_) rfl rfl (by kernel_rfl) (fun _ _ _ h => h) (Or.inl ⟨by rfl, ?_⟩) (fun _ => (by first | exact ⟨by go_simp, by go_simp⟩ | exact ⟨c31, c32⟩)) ?_
  rotate_left
  · intro w' hSw; go_simp; first | done | with_reducible rfl
  simp only [Act.put, List.setIfInBounds_toArray, List.set_cons_zero, List.set_cons_succ]
  refine wpAnyE_ready (rs := [9]) (by kernel_rfl) (by simp) ?_
  refine AllReadyE.next rfl (fun K hK => ?_) AllReadyE.nil
  have HK := Lib.hid hK
  clear hK
  go_simp
  go_at_call 7
  refine (isName_one nm _ hnm).mono ?_
  rintro e w' ⟨rfl, rfl⟩
  rw [HBN.out]
  refine HK.out _ _ (fun _ => ⟨c31, c32⟩) ?_
  clear HK K
  try simp only [Act.put, List.setIfInBounds_toArray, List.set_cons_zero, List.set_cons_succ]
  refine wpAnyE_pure (i := 10) (v := ?_) rfl rfl (by kernel_rfl) (fun _ _ _ h => h) (Or.inl ⟨by rfl, ?_⟩) (fun _ => (by first | exact ⟨by go_simp, by go_simp⟩ | exact ⟨c31, c32⟩)) ?_
  rotate_left
  · intro w' hSw; go_simp; first | done | with_reducible rfl
  simp only [Act.put, List.setIfInBounds_toArray, List.set_cons_zero, List.set_cons_succ]
  refine wpAnyE_pure (i := 11) (v := undef) rfl rfl (by kernel_rfl) (fun _ _ _ h => h) (Or.inr ⟨by rfl, rfl⟩) (fun _ => (by first | exact ⟨by go_simp, by go_simp⟩ | exact ⟨c31, c32⟩)) ?_
  simp only [Act.put, List.setIfInBounds_toArray, List.set_cons_zero, List.set_cons_succ]
  refine wpAnyE_pure (i := 12) (v := undef) rfl rfl (by kernel_rfl) (fun _ _ _ h => h) (Or.inr ⟨by rfl, rfl⟩) (fun _ => (by first | exact ⟨by go_simp, by go_simp⟩ | exact ⟨c31, c32⟩)) ?_
  simp only [Act.put, List.setIfInBounds_toArray, List.set_cons_zero, List.set_cons_succ]
  refine wpAnyE_pure (i := 13) (v := undef) rfl rfl (by kernel_rfl) (fun _ _ _ h => h) (Or.inr ⟨by rfl, rfl⟩) (fun _ => (by first | exact ⟨by go_simp, by go_simp⟩ | exact ⟨c31, c32⟩)) ?_
  simp only [Act.put, List.setIfInBounds_toArray, List.set_cons_zero, List.set_cons_succ]
  refine wpAnyE_pure (i := 14) (v := ?_) rfl rfl (by kernel_rfl) (fun _ _ _ h => h) (Or.inl ⟨by rfl, ?_⟩) (fun _ => (by first | exact ⟨by go_simp, by go_simp⟩ | exact ⟨c31, c32⟩)) ?_
  rotate_left
  · intro w' hSw; go_simp; first | done | with_reducible rfl
  simp only [Act.put, List.setIfInBounds_toArray, List.set_cons_zero, List.set_cons_succ]
  refine wpAnyE_ready (rs := [15]) (by kernel_rfl) (by simp) ?_
  refine AllReadyE.next rfl (fun K hK => ?_) AllReadyE.nil
  have HK := Lib.hid hK
  clear hK
  go_simp
  refine HK.out _ _ (fun _ => (by first | exact ⟨by go_simp, by go_simp⟩ | exact ⟨c31, c32⟩)) ?_
  clear HK K
  try simp only [Act.put, List.setIfInBounds_toArray, List.set_cons_zero, List.set_cons_succ]
  refine wpAnyE_ready (rs := [16]) (by kernel_rfl) (by simp) ?_
  refine AllReadyE.next rfl (fun K hK => ?_) AllReadyE.nil
  have HK := Lib.hid hK
  clear hK
  go_simp
  refine HK.out _ _ (fun _ => (by first | exact ⟨by go_simp, by go_simp⟩ | exact ⟨c31, c32⟩)) ?_
  clear HK K
  try simp only [Act.put, List.setIfInBounds_toArray, List.set_cons_zero, List.set_cons_succ]
  refine wpAnyE_done (by kernel_rfl) ?_
  refine NoPanic.normal ?_
  show KQ _ _
  refine HQ.out _ _ ?_
  clear HQ KQ
  go_wp2
  refine bodyPost_ret_by (v := (.tuple #[.agg #[.int .i64 (S.old k nm), .slice none 0 0], .bool false])) (by rw [results_cell_tmp (by rfl)]; go_simp) rfl ?_
  exact step_set 1 k ix nm HT.out (by repeat (first | exact Chg.refl _ _ | apply Chg.alloc | apply Chg.drew | apply Chg.drewN | (refine Chg.setCell ?_ (by first | exact .inl rfl | exact .inr (by first | (simp; done) | (simp; omega) | omega)) _) | fail)) HCH.out HX.out HSP.out (by repeat (first | exact Chg.refl _ _ | apply Chg.alloc | apply Chg.drew | apply Chg.drewN | (refine Chg.setCell ?_ (by first | exact .inl rfl | exact .inr (by first | (simp; done) | (simp; omega) | omega)) _) | fail)) (fun _ => HE.out)

set_option maxHeartbeats 4000000 in
set_option maxRecDepth 100000 in
theorem step_other {B : Nat} {T : Nat → Nat} {w : World} {r : Nat} {S : Sts} (h : SpecAt B T w r S) (k : Nat) (hk : k < S.regs.length) (ix : Int) (nm : ByteArray) (kd : Int) (h0 : kd ≠ 0) (h1 : kd ≠ 1) (h2 : kd ≠ 2) (h3 : kd ≠ 3) (h4 : kd ≠ 4) (h5 : kd ≠ 5) (h6 : kd ≠ 6) (h7 : kd ≠ 7) (h8 : kd ≠ 8) :
    Calls Try.prog 21 #[.pointer (some ⟨r, 0, none⟩), stpV ⟨kd, k, nm, ix⟩] w (StepPost B T w r S ⟨kd, k, nm, ix⟩) := by
  have HS := Lib.hid h
  have hh : S.has (k : Int) := ⟨Int.natCast_nonneg k, by omega⟩
  have HH : Hid (hasB S k = true) := Lib.hid (decide_eq_true hh)
  have HE : Hid (True) := by
    refine Lib.hid ?_
    trivial
  obtain ⟨lv, hv, nv, ov, h⟩ := h
  obtain ⟨na, nc, hn⟩ := row_shape (h.nrow k hk)
  obtain ⟨oa, oc, ho⟩ := row_shape (h.orow k hk)
  obtain ⟨g, cap, rfl, c2, c3, c4, hgs⟩ := h.at hk
  rw [hn] at c3
  rw [ho] at c4
  have c0 := h.cell0
  have hrs : r < w.heap.size := h.fresh r (by rw [h.tr]; decide)
  have hkI : (k : Int) < (S.regs.length : Int) := by omega
  have hrs1 : r < w.heap.size + 1 := by omega
  have hrs2 : r < w.heap.size + 1 + 1 := by omega
  have hgs1 : g < w.heap.size + 1 := by omega
  have hgs2 : g < w.heap.size + 1 + 1 := by omega
  have HT : Hid (∀ b, T b ≠ 0 → b < w.heap.size) := Lib.hid h.fresh
  have HNR : Hid (w.ownsRow B 9 1 (.slice na (S.reg k).names.length nc) (S.reg k).names.length ((S.reg k).names.map .string)) := Lib.hid (by rw [← hn]; exact h.nrow k hk)
  have e0 : (kd == 0) = false := beq_eq_false_iff_ne.mpr h0
  have e1 : (kd == 1) = false := beq_eq_false_iff_ne.mpr h1
  have e2 : (kd == 2) = false := beq_eq_false_iff_ne.mpr h2
  have e3 : (kd == 3) = false := beq_eq_false_iff_ne.mpr h3
  have e4 : (kd == 4) = false := beq_eq_false_iff_ne.mpr h4
  have e5 : (kd == 5) = false := beq_eq_false_iff_ne.mpr h5
  have e6 : (kd == 6) = false := beq_eq_false_iff_ne.mpr h6
  have e7 : (kd == 7) = false := beq_eq_false_iff_ne.mpr h7
  have e8 : (kd == 8) = false := beq_eq_false_iff_ne.mpr h8
  clear h0 h1 h2 h3 h4 h5 h6 h7 h8
  clear h hh hn ho
  unfold stpV
  go_enter Try.func21, Try.ntmps21
  go_wp2_with (go_at_call 26; refine (has_any (HS.out.chg (M := fun _ => False) (by repeat (first | exact Chg.refl _ _ | apply Chg.alloc | apply Chg.drew | apply Chg.drewN | (refine Chg.setCell ?_ (by first | exact .inl rfl | exact .inr (by first | (simp; done) | (simp; omega) | omega)) _) | fail)) (fun _ f => f.elim)) _).mono ?_; rintro e w' ⟨rfl, rfl⟩; rw [HH.out])
  go_region
  go_wp2
  refine bodyPost_ret_by (v := (.tuple #[.agg #[.int .i64 0, .slice none 0 0], .bool false])) (by rw [results_cell_tmp (by rfl)]; go_simp) rfl ?_
  exact step_not (by repeat (first | exact Chg.refl _ _ | apply Chg.alloc | apply Chg.drew | apply Chg.drewN | (refine Chg.setCell ?_ (by first | exact .inl rfl | exact .inr (by first | (simp; done) | (simp; omega) | omega)) _) | fail))

theorem step_any {B : Nat} {T : Nat → Nat} {w : World} {r : Nat} {S : Sts} (h : SpecAt B T w r S) (hS : S.WF) (hB : B ≤ w.heap.size) (hm : S.homes.length ≤ 900) (s : Stp) (hnm : s.name.size ≤ maxLen) :
    Calls Try.prog 21 #[.pointer (some ⟨r, 0, none⟩), stpV s] w (StepPost B T w r S s) := by
  obtain ⟨kd, sc, nm, ix⟩ := s
  by_cases h0 : kd = 0
  · subst h0; exact step_made h hB sc ix nm
  by_cases h8 : kd = 8
  · subst h8; exact step_home h sc ix nm
  by_cases hh : S.has sc
  · obtain ⟨k, rfl, hk⟩ := has_nat hh
    have hl := hS.few k hk
    by_cases h1 : kd = 1
    · subst h1
      cases hb : nmB nm with
      | true => exact step_insert_t h k hk ix nm hS hB hm hnm hb
      | false => exact step_insert_f h k hk ix nm hS hB hm hnm hb
    by_cases h2 : kd = 2
    · subst h2; exact step_find h k hk ix nm hS hm hnm
    by_cases h3 : kd = 3
    · subst h3; exact step_names h k hk ix nm (by omega)
    by_cases h4 : kd = 4
    · subst h4; exact step_len h k hk ix nm
    by_cases h5 : kd = 5
    · subst h5; exact step_kids h k hk ix nm hS
    by_cases h6 : kd = 6
    · subst h6
      by_cases i0 : ix < 0
      · exact step_kid_low h k hk ix nm hS i0
      · by_cases i1 : ((S.kids k S.regs.length).length : Int) ≤ ix
        · exact step_kid_high h k hk ix nm hS (by omega) i1
        · exact step_kid_at h k hk ix nm hS ix.toNat (by omega) (by omega)
    by_cases h7 : kd = 7
    · subst h7; exact step_par h k hk ix nm
    exact step_other h k hk ix nm kd h0 h1 h2 h3 h4 h5 h6 h7 h8
  · exact step_no h kd sc ix nm h0 h8 hh
end Go.Proofs.Ytipmpeekfajlcaa
