/- The law FnRelative is true at every two strings: the qualifier that is relative to a package gives the empty text for that package and the path for another; both arguments read afterwards as before. No condition. -/
import Derived.Test.YtipmpeekfajlcaaRows
import Derived.Test.YtipmpeekfajlcaaRelativeWalks
import Derived.WalkKit
import Derived.ProofKit
import Derived.OpenShut
import Derived.ShutString
namespace Go.Proofs.Ytipmpeekfajlcaa.fnRelative
open Go.ChangeShapes Go.WideShapes Go.ChangeAt Go.RowKit
open Go.ChangeMaps (open_string shut_string)
set_option linter.unusedVariables false

theorem own : ownKnob Try.prog.godebug = none := by kernel_rfl

set_option maxHeartbeats 2000000 in
/-- The Go text returns true at one path given twice. -/
theorem walk_same (a0 : ByteArray) (w0 : a0.size ≤ maxLen) (w : World) :
    Calls Try.prog 4 #[.string a0, .string a0] w fun e w' => e = .returned (.bool true) ∧ Grown w w' := by
  have W0 := Lib.hid w0
  unfold maxLen at w0
  go_enter Try.func4, Try.ntmps4
  go_wp2_with (first
    | (go_at_call 6; refine (isPath_any _ _ W0.out).mono ?_; rintro e w' ⟨b, rfl, rfl⟩; cases b)
    | (go_at_call 9; (with_reducible refine (relative_same _ _).mono ?_); rintro e w' ⟨rfl, hg⟩)
    | (go_at_call 9; (with_reducible refine (relative_other ⟨#[112]⟩ ⟨#[113]⟩ letters_ne _).mono ?_); rintro e w' ⟨rfl, hg2⟩))
  all_goals (go_ret; exact ⟨rfl, by first | exact Grown.refl _ | exact grown_trans hg hg2⟩)

set_option maxHeartbeats 2000000 in
/-- The Go text returns true at two paths. -/
theorem walk_other (a0 : ByteArray) (a1 : ByteArray) (w0 : a0.size ≤ maxLen) (w1 : a1.size ≤ maxLen) (hne : (a0.toList == a1.toList) = false) (w : World) :
    Calls Try.prog 4 #[.string a0, .string a1] w fun e w' => e = .returned (.bool true) ∧ Grown w w' := by
  have W0 := Lib.hid w0
  have W1 := Lib.hid w1
  have HN := Lib.hid hne
  unfold maxLen at w0 w1
  go_enter Try.func4, Try.ntmps4
  go_wp2_with (first
    | (go_at_call 6; (with_reducible refine (isPath_any a0 _ W0.out).mono ?_); rintro e w' ⟨b, rfl, rfl⟩; cases b)
    | (go_at_call 6; (with_reducible refine (isPath_any a1 _ W1.out).mono ?_); rintro e w' ⟨b, rfl, rfl⟩; cases b)
    | (go_at_call 9; (with_reducible refine (relative_other a0 a1 HN.out _).mono ?_); rintro e w' ⟨rfl, hg⟩)
    | (go_at_call 9; (with_reducible refine (relative_other ⟨#[112]⟩ ⟨#[113]⟩ letters_ne _).mono ?_); rintro e w' ⟨rfl, hg2⟩))
  all_goals (go_ret; exact ⟨rfl, by first | exact Grown.refl _ | exact grown_trans hg hg2⟩)

/-- The Go text returns true; the world has at most new blocks. -/
theorem walk (a0 : ByteArray) (a1 : ByteArray) (w0 : a0.size ≤ maxLen) (w1 : a1.size ≤ maxLen) (w : World) :
    Calls Try.prog 4 #[.string a0, .string a1] w fun e w' => e = .returned (.bool true) ∧ Grown w w' := by
  by_cases h : a0 = a1
  · subst h
    exact walk_same a0 w0 w
  · exact walk_other a0 a1 w0 w1 (toList_ne h) w

set_option maxRecDepth 100000 in
theorem lifted (os : Os) (started : os.Started) (H : Type) (enc : TypeId × Value → H) :
    ReturnsInHanded {} Try.checked os 4 .any (Rows.fnRelativeSpec.pre6 enc Try.prog Try.f4 Rows.fnRelativeRow.domain false) (Rows.fnRelativeSpec.post enc Try.prog Try.f4 false true false false) := by
  refine returnsInHanded_of_change (C := Try.checked) own started (by kernel_rfl) Try.func4
    (ChangeSpec.witness6 (enc := enc) (C := Try.checked) false ⟨#[], #[.string ByteArray.empty, .string ByteArray.empty], []⟩ 8 (by kernel_rfl) (by kernel_rfl) (by kernel_rfl) (by kernel_rfl)) ?_
  intro W base args ds gs before hval0 hW hcnd _
  have hval : ∀ (j : Nat) t v, Try.f4.params[j]? = some t → args[j]? = some v → Value.okWide Try.prog W .any base t v := hval0
  have hW' := hW
  obtain ⟨p, q, hA0, hV, rfl, hfz, hnd⟩ := hW
  have hA : DataW.TrodAll enc Try.prog W 0 (fun _ => true) true Try.f4.params.toList args.toList ds p := hA0
  rw [Try.params4] at hA hval
  obtain ⟨v0, vs0, d0, ds0, p0, q0, hargs, rfl, rfl, h0, r0⟩ := trodAll_cons hA
  obtain ⟨v1, vs1, d1, ds1, p1, q1, rfl, rfl, rfl, h1, r1⟩ := trodAll_cons r0
  obtain ⟨rfl, rfl, rfl⟩ := trodAll_nil r1
  obtain rfl : args = #[v0, v1] := by cases args; simp_all
  obtain ⟨rfl, rfl⟩ := trodVars_none hV
  obtain ⟨a0, rfl, rfl, rfl, w0⟩ := open_string Try.underlying9 (hval 0 9 v0 rfl rfl) h0
  obtain ⟨a1, rfl, rfl, rfl, w1⟩ := open_string Try.underlying9 (hval 1 9 v1 rfl rfl) h1
  clear hA0 hval0
  simp only [List.append_nil] at hW'
  refine (walk a0 a1 w0 w1 W).mono fun e W' ⟨he, hg⟩ => ?_
  subst he
  exact ⟨_, rfl, post_of_same (pa := []) (pv := []) hW' (fun _ _ _ => (trodAll_cons_mk (shut_bool Try.underlying4 _) trodAll_mk0)) (fun sp _ => (trodAll_cons_mk (shut_string Try.underlying9 w0) (trodAll_cons_mk (shut_string Try.underlying9 w1) trodAll_mk0))) (fun _ _ => rfl) rfl
    (hg.frame _) hg.2.1 (ok_one (by kernel_rfl) rfl (okWide_bool_mk Try.underlying4 _))⟩

theorem over : Rows.fnRelativeRow.holds Try.pinned (OpenSpec.ofChange Rows.fnRelativeSpec) :=
  OpenClaim.holds_of_wide 4 Try.f4 rfl rfl rfl rfl rfl rfl rfl ⟨rfl, rfl, rfl, rfl, rfl⟩ rfl rfl rfl rfl rfl (by kernel_rfl) Try.func4 (by kernel_rfl)
    (of_decide_eq_true (by kernel_rfl)) (by unfold Func.isWrapper; first | (rw [if_pos (by decide +kernel)]; kernel_rfl) | (rw [if_neg (by decide +kernel)]; exact ⟨rfl, rfl⟩))
    (fun os started H enc _ => lifted os started H enc)

/-- The statement. -/
theorem proved : Rows.FnRelativeSaid :=
  over
#print axioms proved
end Go.Proofs.Ytipmpeekfajlcaa.fnRelative
