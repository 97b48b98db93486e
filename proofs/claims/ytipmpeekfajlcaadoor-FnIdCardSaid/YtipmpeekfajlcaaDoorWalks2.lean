/- The walks for the law FnId: spec.IsBig, isExported, the two ways to the unique name. -/
import Derived.Test.YtipmpeekfajlcaaDoorWalks1
import Derived.Deep.QuietTactic
import Derived.BigQuiet
namespace Go.Proofs.YtipmpeekfajlcaaDoor
open Go.RowKit

/-- A text with a byte is not empty, in the walk's spelling. -/
theorem not_empty {s : ByteArray} (h : 0 < s.size) : s.toList.isEmpty = false := by
  rw [ByteArray.toList_eq]
  cases e : s.data.toList with
  | nil =>
    have : s.data.toList.length = 0 := by rw [e]; rfl
    rw [Array.length_toList] at this
    exact absurd h (by show ¬ 0 < s.data.size; omega)
  | cons _ _ => rfl

set_option maxHeartbeats 1000000 in
theorem isBig_yes (s : ByteArray) (w : World) (h : 0 < s.size) (hb : 65 ≤ ((s[0]'h).toNat : Int)) (hb2 : ((s[0]'h).toNat : Int) ≤ 90) : Calls Tryd.prog 10 #[.string s] w fun e w' => e = .returned (.bool true) ∧ w = w' := by
  have hn := not_empty h
  have d1 : decide (((s[0]'h).toNat : Int) ≤ 90) = true := decide_eq_true hb2
  go_enter Tryd.func10, Tryd.ntmps10
  go_wp2
  go_ret
  exact ⟨rfl, rfl⟩

set_option maxHeartbeats 1000000 in
theorem isBig_high (s : ByteArray) (w : World) (h : 0 < s.size) (hb : 90 < ((s[0]'h).toNat : Int)) : Calls Tryd.prog 10 #[.string s] w fun e w' => e = .returned (.bool false) ∧ w = w' := by
  have hn := not_empty h
  have d1 : decide (((s[0]'h).toNat : Int) ≤ 90) = false := decide_eq_false (by omega)
  go_enter Tryd.func10, Tryd.ntmps10
  go_wp2
  go_ret
  exact ⟨rfl, rfl⟩

set_option maxHeartbeats 1000000 in
theorem isBig_low (s : ByteArray) (w : World) (h : 0 < s.size) (hb : ((s[0]'h).toNat : Int) < 65) : Calls Tryd.prog 10 #[.string s] w fun e w' => e = .returned (.bool false) ∧ w = w' := by
  have hn := not_empty h
  go_enter Tryd.func10, Tryd.ntmps10
  go_wp2
  go_ret
  exact ⟨rfl, rfl⟩

set_option maxHeartbeats 1000000 in
theorem decode_low (s : ByteArray) (w : World) (h : 0 < s.size) (hb : ((s[0]'h).toNat : Int) < 128) :
    Calls Tryd.prog 13 #[.string s] w fun e w' => e = .returned (.tuple #[.int .i32 ((s[0]'h).toNat : Int), .int .i64 1]) ∧ w = w' := by
  have hn := not_empty h
  go_enter Tryd.func13, Tryd.ntmps13
  go_wp2
  go_ret2
  exact ⟨rfl, rfl⟩

set_option maxHeartbeats 1000000 in
theorem isUpper_low (r : Nat) (z : Int) (w : World) (hr : (r : Int) < 128) (hc : w.cell? ⟨0, r, none⟩ = some (.int .u8 z)) :
    Calls Tryd.prog 14 #[.int .i32 r] w fun e w' => e = .returned (.bool (bits .and .u8 z 96 == 32)) ∧ w = w' := by
  have hr2 : (r : Int) ≤ 255 := by omega
  go_enter Tryd.func14, Tryd.ntmps14
  go_wp2
  go_ret
  exact ⟨rfl, rfl⟩

set_option maxHeartbeats 1000000 in
theorem exported_low (s : ByteArray) (z : Int) (w : World) (h : 0 < s.size) (hb : ((s[0]'h).toNat : Int) < 128) (hc : w.cell? ⟨0, (s[0]'h).toNat, none⟩ = some (.int .u8 z)) :
    Calls Tryd.prog 11 #[.string s] w fun e w' => e = .returned (.bool (bits .and .u8 z 96 == 32)) ∧ w = w' := by
  have HC := Lib.hid hc
  have HB := Lib.hid hb
  clear hc hb
  go_enter Tryd.func11, Tryd.ntmps11
  go_wp2_with (first
    | (go_at_call 13; refine (decode_low s _ h HB.out).mono ?_; rintro e w' ⟨rfl, rfl⟩)
    | (go_at_call 14; refine (isUpper_low _ z _ HB.out HC.out).mono ?_; rintro e w' ⟨rfl, rfl⟩))
  go_ret
  exact ⟨rfl, rfl⟩
end Go.Proofs.YtipmpeekfajlcaaDoor
