/- The walk of the program's NewScope. -/
import Derived.Test.YtipmpeekfajlcaaScoped
namespace Go.Proofs.Ytipmpeekfajlcaa
open Go.RowKit

theorem info37 : (Try.prog.info? 37).map (fun i => (i.zero, i.size, i.bytes)) = some (some (.pointer none), 1, 8) := by kernel_rfl
def cmt : ByteArray := ⟨#[97, 32, 115, 99, 111, 112, 101]⟩

set_option maxHeartbeats 4000000 in
set_option maxRecDepth 100000 in
theorem newScope_root (w : World) :
    Calls Try.prog 23 #[.pointer none, .int .i64 0, .int .i64 0, .string ⟨#[97, 32, 115, 99, 111, 112, 101]⟩] w fun e w' => e = .returned (.pointer (some ⟨w.heap.size, 0, none⟩)) ∧ w' = w.alloc (.cells (scCells none none 0 0 0 none) 69 (0, 0)) := by
  go_enter Try.func23, Try.ntmps23
  go_wp2
  go_ret
  exact ⟨rfl, rfl⟩

/-- The first of two new blocks is as it was behind an append. -/
theorem new_kept {w w1 : World} {o o2 : Obj} {v : Value} {B e size n : Nat} {xs : List Value} (hg : ((w.alloc o).alloc o2).grownBy w1 v.ownBlock) (hr : w.ownsRow B e size v n xs) : w1.heap[w.heap.size]? = some o := by
  have e1 : ((w.alloc o).alloc o2).heap[w.heap.size]? = some o := (Below.heap_alloc _ _ _ (by simp)).trans (heap_alloc_new w o)
  exact (hg.block w.heap.size (by simp; omega) (fun e => by have := (hr.lt _ e.symm).2; omega)).trans e1

/-- What NewScope gives in a scope that lies at b. -/
def NewIn (B : Nat) (w : World) (b : Nat) (pa : Option Addr) (ka : Option Addr) (kn kc : Nat) (num : Int) (m : Option Nat) (xs : List Value) (e : Ending) (w' : World) : Prop :=
  e = .returned (.pointer (some ⟨w.heap.size, 0, none⟩)) ∧ ∃ g c, w'.heap[w.heap.size]? = some (.cells (scCells (some ⟨b, 0, none⟩) none 0 0 (kn + 1) none) 69 (0, 0)) ∧
    w'.heap[b]? = some (.cells (scCells pa (some ⟨g, 0, none⟩) (kn + 1) c num m) 69 (0, 0)) ∧ w'.ownsRow B 37 1 (.slice (some ⟨g, 0, none⟩) (kn + 1) c) (kn + 1) (xs ++ [ptrV w.heap.size]) ∧
    ((Value.slice ka kn kc).ownBlock = some g ∨ w.heap.size < g) ∧ Chg (fun i => i = b ∨ (Value.slice ka kn kc).ownBlock = some i) w w'

set_option maxHeartbeats 4000000 in
set_option maxRecDepth 100000 in
theorem newScope_in (B : Nat) (w : World) (b : Nat) (pa : Option Addr) (ka : Option Addr) (kn kc : Nat) (num : Int) (m : Option Nat) (xs : List Value) (hB : B ≤ w.heap.size) (hkn : kn ≤ 1000)
    (hb : w.heap[b]? = some (.cells (scCells pa ka kn kc num m) 69 (0, 0))) (hrow : w.ownsRow B 37 1 (.slice ka kn kc) kn xs) (hne : (Value.slice ka kn kc).ownBlock ≠ some b) :
    Calls Try.prog 23 #[.pointer (some ⟨b, 0, none⟩), .int .i64 0, .int .i64 0, .string ⟨#[97, 32, 115, 99, 111, 112, 101]⟩] w (NewIn B w b pa ka kn kc num m xs) := by
  have c1 : w.cell? ⟨b, 1, none⟩ = some (.slice ka kn kc) := cell_of_row w b 1 _ 69 (0, 0) hb
  have c8 : w.cell? ⟨b, 8, none⟩ = some (.bool false) := cell_of_row w b 8 _ 69 (0, 0) hb
  have hbl : b < w.heap.size := (Array.getElem?_eq_some_iff.1 hb).1
  obtain ⟨i0, hi, hz0, hz1, hz2⟩ := info_parts info37
  have HB := Lib.hid hb
  have HR := Lib.hid hrow
  have HN := Lib.hid hne
  clear hb hrow hne
  go_enter Try.func23, Try.ntmps23
  go_wp2_with (at_builtin; refine wpList_append_lies _ rfl _ _ 57 rfl B 37 i0 (.pointer none) 1 8 Try.underlying57 hi hz0 hz1 hz2 rfl (by omega) (.slice ka kn kc) kn xs rfl (((HR.out).alloc _).alloc _) ⟨w.heap.size + 1, 0, none⟩ 1 1 [.pointer (some ⟨w.heap.size, 0, none⟩)] rfl rfl (news_one (w.alloc _) _ _ _ (by simp)) (by simp [Value.oneCell']) (by omega) (by unfold maxLen; omega) (by omega) (by simp; omega) _ rfl ?_; intro g1 cap1 w1 hown1 hgrow1 hat1 hlt1; have hc1 : Chg (fun i => (Value.slice ka kn kc).ownBlock = some i) w w1 := Chg.grown (by repeat (first | exact Chg.refl _ _ | apply Chg.alloc | apply Chg.drew | apply Chg.drewN | (refine Chg.setCell ?_ (by first | exact .inl rfl | exact .inr (by first | (simp; done) | (simp; omega) | omega)) _) | fail)) hgrow1 (fun i hi => .inl hi); have hb1 := hc1.heapAt HB.out HN.out; have hn1 := new_kept (o := .cells (scCells (some ⟨b, 0, none⟩) none 0 0 0 none) 69 (0, 0)) hgrow1 HR.out; have cb1 : w1.cell? ⟨b, 1, none⟩ = some (.slice ka kn kc) := cell_of_row w1 b 1 _ 69 (0, 0) hb1; have fb1 := frozen_of_row w1 b 1 _ 69 hb1; have cn2 : w1.cell? ⟨w.heap.size, 2, none⟩ = some (.int .i64 0) := cell_of_row w1 _ 2 _ 69 (0, 0) hn1; have fn2 := frozen_of_row w1 _ 2 _ 69 hn1; have hbn : b ≠ w.heap.size := (by omega); have hnb : w.heap.size ≠ b := (by omega); have hbw1 : b < w1.heap.size := (by have := hc1.size; omega); have hnw1 : w.heap.size < w1.heap.size := (Array.getElem?_eq_some_iff.1 hn1).1; have HB1 := Lib.hid hb1; have HN1 := Lib.hid hn1; have HO1 := Lib.hid hown1; have HG1 := Lib.hid hgrow1; have HA1 := Lib.hid hat1; have HC1 := Lib.hid hc1; clear hb1 hn1 hown1 hgrow1 hat1 hlt1 hc1)
  go_ret
  have g1b : g1 ≠ b ∧ g1 ≠ w.heap.size ∧ ((Value.slice ka kn kc).ownBlock = some g1 ∨ w.heap.size < g1) := by
    rcases HA1.out with e | e
    · have := (HR.out.lt g1 e).2
      exact ⟨fun e' => HN.out (e' ▸ e), by omega, .inl e⟩
    · simp at e
      exact ⟨by omega, by omega, .inr (by omega)⟩
  refine ⟨rfl, g1, cap1, ?_, ?_, ?_, g1b.2.2, ?_⟩
  · have e1 := (Below.heap_setCell w1 ⟨b, 1, none⟩ (.slice (some ⟨g1, 0, none⟩) (kn + 1) cap1) w.heap.size hnb).trans HN1.out
    rw [heap_setCell_same _ w.heap.size 2 _ 69 _ e1]
    rfl
  · rw [Below.heap_setCell _ _ _ b hbn, heap_setCell_same w1 b 1 _ 69 _ HB1.out]
    rfl
  · have k : Chg (fun i => i = b ∨ i = w.heap.size) w1 ((w1.setCell ⟨b, 1, none⟩ (.slice (some ⟨g1, 0, none⟩) (kn + 1) cap1)).setCell ⟨w.heap.size, 2, none⟩ (.int .i64 ((kn : Int) + 1))) :=
      ((Chg.refl _ w1).setCell (p := ⟨b, 1, none⟩) (.inl (.inl rfl)) _).setCell (p := ⟨w.heap.size, 2, none⟩) (.inl (.inr rfl)) _
    exact k.row HO1.out (fun g e h' => by
      have e' : g1 = g := by simpa [Value.ownBlock] using e
      subst e'
      exact h'.elim g1b.1 g1b.2.1)
  · exact ((HC1.out.mono (fun i e => .inl (.inr e))).setCell (p := ⟨b, 1, none⟩) (.inl (.inl rfl)) _).setCell (p := ⟨w.heap.size, 2, none⟩) (.inr (Nat.le_refl _)) _
end Go.Proofs.Ytipmpeekfajlcaa
