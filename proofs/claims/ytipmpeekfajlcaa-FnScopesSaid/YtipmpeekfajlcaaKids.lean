/- The walk of the reference's children: the scopes in a scope, in order, in new memory. -/
import Derived.Test.YtipmpeekfajlcaaSpecRep
import Derived.OwnWalk
namespace Go.Proofs.Ytipmpeekfajlcaa
open Go.RowKit

theorem info2 : (Try.prog.info? 2).map (fun i => (i.zero, i.size, i.bytes)) = some (some (.int .i64 0), 1, 8) := by kernel_rfl

theorem kids_succ (S : Sts) (k : Int) (j : Nat) : S.kids k (j + 1) = if (S.reg j).par = k then S.kids k j ++ [j] else S.kids k j := by
  unfold Sts.kids
  rw [List.range_succ, List.filter_append]
  by_cases h : (S.reg j).par = k <;> simp [h]
theorem kids_le (S : Sts) (k : Int) (j : Nat) : (S.kids k j).length ≤ j := by
  have := List.length_filter_le (fun i => decide ((S.reg i).par = k)) (List.range j)
  simpa [Sts.kids] using this

def KidsRel (w : World) (S : Sts) (k : Int) (v i : Value) (wr : World) : Prop :=
  ∃ j : Nat, j ≤ S.regs.length ∧ i = .int .i64 j ∧ Chg (fun _ => False) w wr ∧ wr.ownsRow w.heap.size 2 1 v (S.kids k j).length ((S.kids k j).map fun (c : Nat) => Value.int .i64 (c : Int))

/-- What children gives. -/
def KidsPost (w : World) (S : Sts) (k : Int) (e : Ending) (w' : World) : Prop :=
  ∃ v, e = .returned v ∧ Chg (fun _ => False) w w' ∧ w'.ownsRow w.heap.size 2 1 v (S.kids k S.regs.length).length ((S.kids k S.regs.length).map fun (c : Nat) => Value.int .i64 (c : Int))

set_option maxHeartbeats 2000000 in
set_option maxRecDepth 100000 in
theorem children_any {B : Nat} {T : Nat → Nat} {w : World} {r : Nat} {S : Sts} (h : SpecAt B T w r S) (hS : S.WF) (k : Int) :
    Calls Try.prog 30 #[.pointer (some ⟨r, 0, none⟩), .int .i64 k] w (KidsPost w S k) := by
  have h30 := hS.regs30
  obtain ⟨lv, hv, nv, ov, h⟩ := h
  obtain ⟨a, cap, rfl⟩ := row_shape h.lrow
  have c0 := h.cell0
  obtain ⟨i0, hi, hz0, hz1, hz2⟩ := info_parts info2
  have hrs : r < w.heap.size := h.fresh r (by rw [h.tr]; decide)
  have HS := Lib.hid h
  have H30 := Lib.hid h30
  clear h h30
  go_enter Try.func30, Try.ntmps30
  go_wp2
  go_loopw [5, 14] (fun v i wr => KidsRel w S k v i wr) (fun _ i _ => S.regs.length - (intOf i).toNat)
  case atStart => exact ⟨0, Nat.zero_le _, rfl, (Chg.refl _ _).alloc _, World.ownsRow_lit w #[] 0 (Nat.le_refl _) (Nat.zero_le _) rfl⟩
  case round =>
    obtain ⟨j, hj, rfl, hchg, hown⟩ := hrel
    have hsz := hchg.size
    have HCH := Lib.hid hchg
    have HOW := Lib.hid hown
    clear hchg hown
    by_cases hlt : j < S.regs.length
    · obtain ⟨g, cap', hg, d0, d1, d2, hgs⟩ := HS.out.at hlt
      simp only [Value.slice.injEq, true_and] at hg
      obtain ⟨rfl, rfl⟩ := hg
      have e0 := HCH.out.cell d0 (fun f => f)
      have e1 := HCH.out.cell d1 (fun f => f)
      have e2 := HCH.out.cell d2 (fun f => f)
      obtain ⟨na, nc, hn⟩ := row_shape (HS.out.nrow j hlt)
      obtain ⟨oa, oc, ho⟩ := row_shape (HS.out.orow j hlt)
      rw [hn] at e1
      rw [ho] at e2
      clear d0 d1 d2 hn ho
      have hgr : g < wr.heap.size := by omega
      have hle := kids_le S k j
      have h3 := H30.out
      by_cases hp : (S.reg j).par = k
      · have HP := Lib.hid hp
        rw [hp] at e0
        clear hp
        go_wp2_with (first | (at_builtin; refine wpList_append_lies _ rfl _ _ 48 rfl w.heap.size 2 i0 (.int .i64 0) 1 8 Try.underlying48 hi hz0 hz1 hz2 rfl (by omega) u5 _ _ rfl ((HOW.out.alloc _).alloc _) ⟨wr.heap.size + 1, 0, none⟩ 1 1 [.int .i64 (j : Int)] rfl rfl (news_one _ _ _ _ (by simp)) (by simp [Value.oneCell']) (by omega) (by unfold maxLen; omega) (by omega) (by simp; omega) _ rfl ?_; intro g1 cap1 w1 hown1 hgrow hat hlt1))
        refine ⟨⟨j + 1, by omega, by go_num, ?_, ?_⟩, by simp [intOf]; omega⟩
        · exact ((HCH.out.alloc _).alloc _).grown hgrow (fun b hb => .inr (HOW.out.lt b hb).1)
        · rw [kids_succ, if_pos HP.out, List.length_append, List.map_append]
          exact hown1
      · have HP := Lib.hid hp
        have hpd : ((S.reg j).par == k) = false := beq_eq_false_iff_ne.mpr hp
        clear hp
        go_wp2_with fail
        refine ⟨⟨j + 1, by omega, by go_num, HCH.out.alloc _, ?_⟩, by simp [intOf]; omega⟩
        rw [kids_succ, if_neg HP.out]
        exact HOW.out.alloc _
    · have hj' : j = S.regs.length := by omega
      subst hj'
      have HCH' := Lib.hid HCH.out
      go_wp2_with fail
      go_ret
      exact ⟨_, rfl, HCH.out, HOW.out⟩
end Go.Proofs.Ytipmpeekfajlcaa
