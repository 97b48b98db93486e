/- The function spec.IsName returns one and the same bool in every world. -/
import Derived.Test.YtipmpeekfajlcaaNamesWalks
namespace Go.Proofs.Ytipmpeekfajlcaa
open Go.RowKit

/-- The byte at k bars the name. -/
def nmBad (s : ByteArray) (k : Nat) : Prop :=
  ∃ h : k < s.size, ¬ ((97 ≤ (s[k].toNat : Int) ∧ (s[k].toNat : Int) ≤ 122) ∨ (65 ≤ (s[k].toNat : Int) ∧ (s[k].toNat : Int) ≤ 90) ∨ (s[k].toNat : Int) = 95) ∧ (k = 0 ∨ (s[k].toNat : Int) < 48 ∨ 57 < (s[k].toNat : Int))
noncomputable def nmB (s : ByteArray) : Bool := @decide ((∀ j, ¬ nmBad s j) ∧ 1 ≤ s.size ∧ s.size ≤ 20) (Classical.propDecidable _)
theorem nmB_bad {s : ByteArray} {k : Nat} (h : nmBad s k) : Ending.returned (.bool false) = .returned (.bool (nmB s)) := by
  have : nmB s = false := @decide_eq_false _ (Classical.propDecidable _) (fun e => e.1 k h)
  rw [this]
theorem nmB_end {s : ByteArray} {b : Bool} {k : Nat} (hk : ¬ k < s.size) (h : ∀ j, j < k → ¬ nmBad s j) (hb : b = decide (1 ≤ s.size ∧ s.size ≤ 20)) : Ending.returned (.bool b) = .returned (.bool (nmB s)) := by
  have : nmB s = b := by
    rw [hb]
    have hiff : ((∀ j, ¬ nmBad s j) ∧ 1 ≤ s.size ∧ s.size ≤ 20) ↔ (1 ≤ s.size ∧ s.size ≤ 20) :=
      ⟨fun e => e.2, fun e => ⟨fun j hj => by
        obtain ⟨h1, h2⟩ := hj
        exact h j (by omega) ⟨h1, h2⟩, e⟩⟩
    unfold nmB
    by_cases e : 1 ≤ s.size ∧ s.size ≤ 20
    · rw [decide_eq_true e]
      exact @decide_eq_true _ (Classical.propDecidable _) (hiff.2 e)
    · rw [decide_eq_false e]
      exact @decide_eq_false _ (Classical.propDecidable _) (fun e' => e (hiff.1 e'))
  rw [this]
theorem nm_next {s : ByteArray} {k : Nat} (h : ∀ j, j < k → ¬ nmBad s j) (hk : ¬ nmBad s k) : ∀ j, j < k + 1 → ¬ nmBad s j := fun j hj => by
  by_cases e : j = k
  · subst e; exact hk
  · exact h j (by omega)

set_option maxHeartbeats 4000000 in
set_option maxRecDepth 100000 in
theorem isName_one (s : ByteArray) (w : World) (hs : s.size ≤ maxLen) : Calls Try.prog 7 #[.string s] w (fun e w' => e = .returned (.bool (nmB s)) ∧ w = w') := by
  unfold maxLen at hs
  go_enter Try.func7, Try.ntmps7
  go_wp2
  go_loop [8] (fun i => ∃ k : Nat, k ≤ s.size ∧ i = .int .i64 k ∧ ∀ j, j < k → ¬ nmBad s j) (fun i => s.size - (intOf i).toNat)
  case atStart => exact ⟨0, Nat.zero_le _, rfl, fun j hj => by omega⟩
  case round =>
    obtain ⟨k, hk, rfl, hbad⟩ := hrel
    have HB := Lib.hid hbad
    clear hbad
    by_cases hlt : k < s.size
    · have h8 : (s[k].toNat : Int) < 256 := by have := s[k].toNat_lt; omega
      by_cases hz : k = 0
      case pos =>
        subst hz
        go_wp2
        all_goals first
          | (go_ret; exact ⟨nmB_bad (k := 0) ⟨hlt, by omega⟩, rfl⟩)
          | (refine ⟨⟨1, by omega, by go_num, nm_next (k := 0) HB.out ?_⟩, by simp [intOf]; omega⟩; rintro ⟨_, h1, h2⟩; first | omega | (rename_i h _ _ _ ; simp at h; omega) | fail)
          | (exfalso; rename_i h; simp at h; omega)
          | skip
      case neg =>
        have hkz : ((k : Int) == 0) = false := beq_eq_false_iff_ne.mpr (by omega)
        by_cases d1 : (s[k].toNat : Int) < 48
        case' neg => by_cases d2 : 57 < (s[k].toNat : Int)
        all_goals
          go_wp2
          all_goals first
            | (go_ret; exact ⟨nmB_bad (k := k) ⟨hlt, by omega⟩, rfl⟩)
            | (refine ⟨⟨k + 1, by omega, by go_num, nm_next HB.out ?_⟩, by simp [intOf]; omega⟩; rintro ⟨_, h1, h2⟩; first | omega | (rename_i h _ _ _ ; simp at h; omega) | fail)
            | (exfalso; rename_i h; simp at h; omega)
            | skip
    · go_wp2
      all_goals (go_ret; refine ⟨nmB_end hlt HB.out ?_, rfl⟩; first | (simp only [decide_eq_decide]; omega) | (simp; omega) | skip)
end Go.Proofs.Ytipmpeekfajlcaa
