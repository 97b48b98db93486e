/- The walk of the program's Insert. -/
import Derived.Test.YtipmpeekfajlcaaMapIns
import Derived.Test.YtipmpeekfajlcaaVars
namespace Go.Proofs.Ytipmpeekfajlcaa
open Go.RowKit

set_option maxHeartbeats 1000000 in
theorem name_at (o : Nat) (nm : ByteArray) (w : World) (h0 : w.cell? ⟨o, 3, none⟩ = some (.string nm)) :
    Calls Try.prog 81 #[.pointer (some ⟨o, 0, none⟩)] w fun e w' => e = .returned (.string nm) ∧ w = w' := by
  go_enter Try.func81, Try.ntmps81
  go_wp2
  go_ret
  exact ⟨rfl, rfl⟩
set_option maxHeartbeats 1000000 in
theorem home_at (o : Nat) (p : Option Addr) (w : World) (h0 : w.cell? ⟨o, 0, none⟩ = some (.pointer p)) :
    Calls Try.prog 82 #[.pointer (some ⟨o, 0, none⟩)] w fun e w' => e = .returned (.pointer p) ∧ w = w' := by
  go_enter Try.func82, Try.ntmps82
  go_wp2
  go_ret
  exact ⟨rfl, rfl⟩
set_option maxHeartbeats 1000000 in
theorem setParent_at (o : Nat) (q p : Option Addr) (w : World) (h0 : w.cell? ⟨o, 0, none⟩ = some (.pointer q)) (f0 : w.frozen? ⟨o, 0, none⟩ = false) :
    Calls Try.prog 85 #[.pointer (some ⟨o, 0, none⟩), .pointer p] w fun e w' => e = .returned (.tuple #[]) ∧ w' = w.setCell ⟨o, 0, none⟩ (.pointer p) := by
  go_enter Try.func85, Try.ntmps85
  go_wp2
  exact ⟨rfl, .tuple #[], results_none rfl _ _ _, rfl, rfl⟩

set_option maxHeartbeats 4000000 in
set_option maxRecDepth 100000 in
theorem insert_found (w : World) (b : Nat) (m : Option Nat) (nm : ByteArray) (o c : Nat) (a : Addr)
    (c3 : w.cell? ⟨b, 3, none⟩ = some (.map m)) (hobj : w.heap[o]? = some (.cells (varCells nm a) 105 (0, 0)))
    (hl : (Instr.lookup 67 (.map m) (.string nm) false).run Try.prog w = .ok (.iface 77 (.pointer (some ⟨c, 0, none⟩))) w) :
    Calls Try.prog 35 #[.pointer (some ⟨b, 0, none⟩), .iface 77 (.pointer (some ⟨o, 0, none⟩))] w fun e w' => e = .returned (.iface 77 (.pointer (some ⟨c, 0, none⟩))) ∧ w = w' := by
  have n3 : w.cell? ⟨o, 3, none⟩ = some (.string nm) := cell_of_row w o 3 _ 105 (0, 0) hobj
  have HL := Lib.hid hl
  clear hobj hl
  go_enter Try.func35, Try.ntmps35
  go_wp2_with (first | (go_at_call 36; refine (lookup_at b m nm _ _ c3 HL.out).mono ?_; rintro e w' ⟨rfl, rfl⟩) | (go_at_call 81; refine (name_at o nm _ n3).mono ?_; rintro e w' ⟨rfl, rfl⟩))
  go_ret
  exact ⟨rfl, rfl⟩

/-- What Insert gives where the name is new. -/
def InsNew (w : World) (b : Nat) (pa ka : Option Addr) (kn kc : Nat) (num : Int) (m : Option Nat) (ns : List ByteArray) (os : List Int) (ob : Nat → Nat) (nm : ByteArray) (a : Addr) (o : Nat) (e : Ending) (w' : World) : Prop :=
  e = .returned .nilIface ∧ ∃ mb, w'.heap[b]? = some (.cells (scCells pa ka kn kc num (some mb)) 69 (0, 0)) ∧ MapRep w' (some mb) (ns ++ [nm]) (os ++ [(o : Int)]) ob ∧ (m = some mb ∨ w.heap.size ≤ mb) ∧ mb < w'.heap.size ∧
    w'.heap[ob o]? = some (.cells ((varCells nm a).setIfInBounds 0 (.pointer (some ⟨b, 0, none⟩))) 105 (0, 0)) ∧ Chg (fun i => i = b ∨ m = some i ∨ i = ob o) w w'

set_option maxHeartbeats 4000000 in
set_option maxRecDepth 100000 in
theorem insert_new (w : World) (b : Nat) (pa ka : Option Addr) (kn kc : Nat) (num : Int) (m : Option Nat) (ns : List ByteArray) (os : List Int) (ob : Nat → Nat) (nm : ByteArray) (a : Addr) (o : Nat)
    (hb : w.heap[b]? = some (.cells (scCells pa ka kn kc num m) 69 (0, 0))) (hobj : w.heap[ob o]? = some (.cells (varCells nm a) 105 (0, 0))) (hbo : b ≠ ob o) (hmo : ∀ mb, m = some mb → mb ≠ ob o ∧ mb ≠ b)
    (hl : (Instr.lookup 67 (.map m) (.string nm) false).run Try.prog w = .ok .nilIface w)
    (hput : Calls Try.prog 43 #[.pointer (some ⟨b, 0, none⟩), .string nm, .iface 77 (.pointer (some ⟨ob o, 0, none⟩))] w (PutPost w b pa ka kn kc num m ns os ob nm o)) :
    Calls Try.prog 35 #[.pointer (some ⟨b, 0, none⟩), .iface 77 (.pointer (some ⟨ob o, 0, none⟩))] w (InsNew w b pa ka kn kc num m ns os ob nm a o) := by
  have c3 : w.cell? ⟨b, 3, none⟩ = some (.map m) := cell_of_row w b 3 _ 69 (0, 0) hb
  have n3 : w.cell? ⟨ob o, 3, none⟩ = some (.string nm) := cell_of_row w _ 3 _ 105 (0, 0) hobj
  have hol : ob o < w.heap.size := (Array.getElem?_eq_some_iff.1 hobj).1
  have HL := Lib.hid hl
  have HO := Lib.hid hobj
  have HP := Lib.hid hput
  have HM := Lib.hid hmo
  clear hb hobj hl hput hmo
  go_enter Try.func35, Try.ntmps35
  go_wp2_with (first
    | (go_at_call 36; refine (lookup_at b m nm _ _ c3 HL.out).mono ?_; rintro e w' ⟨rfl, rfl⟩)
    | (go_at_call 81; refine (name_at _ nm _ n3).mono ?_; rintro e w' ⟨rfl, rfl⟩)
    | (go_at_call 43; refine HP.out.mono ?_; rintro e w1 ⟨rfl, mb, q1, q2, q3, q4, q5⟩; have ho1 := q5.heapAt HO.out (fun h => h.elim (fun e => hbo e.symm) (fun e => (HM.out _ e).1 rfl)); have c0 : w1.cell? ⟨ob o, 0, none⟩ = some (.pointer none) := cell_of_row w1 _ 0 _ 105 (0, 0) ho1; have f0 := frozen_of_row w1 _ 0 _ 105 ho1; have hol1 : ob o < w1.heap.size := (by have := q5.size; omega); have HO1 := Lib.hid ho1; have HQ := Lib.hid (And.intro q1 (And.intro q2 (And.intro q3 (And.intro q4 q5)))); clear ho1 q1 q2 q3 q4 q5)
    | (go_at_call 82; refine (home_at _ none _ c0).mono ?_; rintro e w' ⟨rfl, rfl⟩)
    | (go_at_call 85; refine (setParent_at _ none _ _ c0 f0).mono ?_; rintro e w2 ⟨rfl, hw2⟩))
  go_ret
  obtain ⟨q1, q2, q3, q4, q5⟩ := HQ.out
  subst hw2
  have hmb : mb ≠ ob o ∧ mb ≠ b := by
    rcases q3 with e | e
    · exact HM.out mb e
    · have := World.block_lt_of_cell? w _ c3
      simp at this
      exact ⟨by omega, by omega⟩
  refine ⟨rfl, mb, ?_, ?_, q3, by simpa [World.setCell] using q4, ?_, ?_⟩
  · rw [Below.heap_setCell _ _ _ b hbo]; exact q1
  · exact q2.chg (M := fun i => i = ob o) ((Chg.refl (fun i => i = ob o) w1).setCell (p := ⟨ob o, 0, none⟩) (.inl rfl) _) (fun b' e => by cases e; exact hmb.1)
  · exact heap_setCell_same w1 (ob o) 0 _ 105 _ HO1.out
  · exact (q5.mono (fun i e => .inl (e.imp id .inl))).setCell (p := ⟨ob o, 0, none⟩) (.inl (.inr (.inr rfl))) _
end Go.Proofs.Ytipmpeekfajlcaa
