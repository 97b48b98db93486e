/- The walks for the law FnId: spec.IsName (whatever it takes begins with an ASCII byte), spec.IsPath, spec.IsBig, isExported, the two ways to the unique name. -/
import Derived.Test.YtipmpeekfajlcaaDoorProg
import Derived.WalkKit
import Derived.LoopTactic
import Derived.Outline
import Derived.Lib.Hide
import Derived.KernelRfl
import Derived.RowKit3
import Derived.WalkLawsBesides
import Derived.WalkSpells
namespace Go.Proofs.YtipmpeekfajlcaaDoor
open Go.RowKit

/-- The call returned a bool, the world is as it was, and a text for which it is true is not empty. -/
def SomePath (s : ByteArray) (w : World) (e : Ending) (w' : World) : Prop := ∃ b : Bool, e = .returned (.bool b) ∧ w = w' ∧ (b = true → 0 < s.size)
/-- A text whose first byte is an ASCII one. -/
def Low (s : ByteArray) : Prop := ∃ h : 0 < s.size, (s[0]'h).toNat < 128
/-- The call returned a bool, the world is as it was, and a text for which it is true begins with an ASCII byte. -/
def SomeName (s : ByteArray) (w : World) (e : Ending) (w' : World) : Prop := ∃ b : Bool, e = .returned (.bool b) ∧ w = w' ∧ (b = true → Low s)

set_option maxHeartbeats 1000000 in
theorem isPath_any (s : ByteArray) (w : World) (hs : s.size ≤ maxLen) : Calls Tryd.prog 5 #[.string s] w (SomePath s w) := by
  unfold maxLen at hs
  go_enter Tryd.func5, Tryd.ntmps5
  go_wp2
  go_loop [7] (fun i => ∃ k : Nat, k ≤ s.size ∧ i = .int .i64 k) (fun i => s.size - (intOf i).toNat)
  case atStart => exact ⟨0, Nat.zero_le _, rfl⟩
  case round =>
    obtain ⟨k, hk, rfl⟩ := hrel
    by_cases hlt : k < s.size
    · have HP : Hid (0 < s.size) := Lib.hid (by omega)
      go_wp2
      all_goals first
        | (go_ret; exact ⟨_, rfl, rfl, fun _ => HP.out⟩)
        | exact ⟨⟨k + 1, by omega, by go_num⟩, by simp [intOf]; omega⟩
    · by_cases h0 : 0 < s.size
      · have HP : Hid (0 < s.size) := Lib.hid h0
        go_wp2
        all_goals (go_ret; exact ⟨_, rfl, rfl, fun _ => HP.out⟩)
      · go_wp2
        all_goals (go_ret; exact ⟨_, rfl, rfl, fun h => by cases h⟩)

/-- The relation of IsName's loop: behind the first round the text is known to begin with an ASCII byte. -/
def NameAt (s : ByteArray) (i : Value) : Prop := ∃ k : Nat, k ≤ s.size ∧ i = .int .i64 k ∧ (0 < k → Low s)

set_option maxHeartbeats 1000000 in
theorem isName_any (s : ByteArray) (w : World) (hs : s.size ≤ maxLen) : Calls Tryd.prog 4 #[.string s] w (SomeName s w) := by
  unfold maxLen at hs
  go_enter Tryd.func4, Tryd.ntmps4
  go_wp2
  go_loop [8] (fun i => NameAt s i) (fun i => s.size - (intOf i).toNat)
  case atStart => exact ⟨0, Nat.zero_le _, rfl, fun h => absurd h (Nat.lt_irrefl _)⟩
  case round =>
    obtain ⟨k, hk, rfl, hlow⟩ := hrel
    have HL := Lib.hid hlow
    clear hlow
    by_cases hlt : k < s.size
    · by_cases hz : k = 0
      · subst hz
        by_cases hb : (s[0]'hlt).toNat < 128
        · have HB : Hid (Low s) := Lib.hid ⟨hlt, hb⟩
          go_wp2
          all_goals first
            | (go_ret; exact ⟨_, rfl, rfl, fun _ => HB.out⟩)
            | exact ⟨⟨1, by omega, by go_num, fun _ => HB.out⟩, by simp [intOf]; omega⟩
        · have hb1 : (128 : Int) ≤ ((s[0]'hlt).toNat : Int) := by omega
          have d1 : decide (((s[0]'hlt).toNat : Int) ≤ 122) = false := decide_eq_false (by omega)
          have d2 : decide (((s[0]'hlt).toNat : Int) ≤ 90) = false := decide_eq_false (by omega)
          have d3 : (((s[0]'hlt).toNat : Int) == 95) = false := beq_eq_false_iff_ne.mpr (by omega)
          clear hb
          go_wp2
          all_goals (go_ret; exact ⟨_, rfl, rfl, fun h => by cases h⟩)
      · have HB : Hid (Low s) := Lib.hid (HL.out (by omega))
        go_wp2
        all_goals first
          | (go_ret; exact ⟨_, rfl, rfl, fun _ => HB.out⟩)
          | exact ⟨⟨k + 1, by omega, by go_num, fun _ => HB.out⟩, by simp [intOf]; omega⟩
    · by_cases hz : k = 0
      · subst hz
        go_wp2
        all_goals (go_ret; exact ⟨_, rfl, rfl, fun h => by cases h⟩)
      · have HB : Hid (Low s) := Lib.hid (HL.out (by omega))
        go_wp2
        all_goals (go_ret; exact ⟨_, rfl, rfl, fun _ => HB.out⟩)
end Go.Proofs.YtipmpeekfajlcaaDoor
