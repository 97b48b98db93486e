/- The walk of the law FnScopes: it returns true. -/
import Derived.Test.YtipmpeekfajlcaaSame
namespace Go.Proofs.Ytipmpeekfajlcaa
open Go.RowKit

theorem StepsArg.chg {w w' : World} {v : Value} {ss : List Stp} (h : StepsArg w v ss) (k : Chg (fun _ => False) w w') : StepsArg w' v ss := by
  rcases h with h | ⟨ab, ao, c, rfl, h0, hc⟩
  · exact .inl h
  · exact .inr ⟨ab, ao, c, rfl, h0, fun i hi => ⟨k.cell (hc i hi).1 (fun f => f), k.cell (hc i hi).2.1 (fun f => f), k.cell (hc i hi).2.2.1 (fun f => f), k.cell (hc i hi).2.2.2 (fun f => f)⟩⟩

theorem steps_two {w : World} {v : Value} {ss : List Stp} (h : StepsArg w v ss) (hl : ss.length ≤ 100) (hs : ∀ s ∈ ss, s.name.size ≤ maxLen) :
    Calls Try.prog 11 #[v] w fun e w' => Chg (fun _ => False) w w' ∧ ((∃ v2, e = .returned (.tuple #[v2, .bool false])) ∨ ∃ v2 gs S, e = .returned (.tuple #[v2, .bool true]) ∧ runS Sts.empty ss = some (gs, S) ∧ gs.length = ss.length ∧ GotR w' v2 gs) := by
  refine (scopeSteps_any h hl hs).mono ?_
  rintro e w' ⟨hch, v2, ok, rfl, hok⟩
  refine ⟨hch, ?_⟩
  cases ok with
  | false => exact .inl ⟨_, rfl⟩
  | true =>
    obtain ⟨gs, S, vs, T, hr, hgl, hg⟩ := hok rfl
    exact .inr ⟨_, gs, S, rfl, hr, hgl, hg.reads⟩

theorem arg_len {w : World} {v : Value} {ss : List Stp} (h : StepsArg w v ss) : ∃ a c, v = .slice a ss.length c := by
  rcases h with ⟨rfl, a, c, rfl⟩ | ⟨ab, ao, c, rfl, _⟩
  · exact ⟨a, c, rfl⟩
  · exact ⟨_, c, rfl⟩

set_option maxHeartbeats 4000000 in
set_option maxRecDepth 100000 in
theorem law_any {w : World} {v : Value} {ss : List Stp} (h : StepsArg w v ss) (hl : ss.length ≤ maxLen) (hs : ∀ s ∈ ss, s.name.size ≤ maxLen) :
    Calls Try.prog 5 #[v] w fun e w' => e = .returned (.bool true) ∧ Chg (fun _ => False) w w' := by
  obtain ⟨a, c, rfl⟩ := arg_len h
  have HA := Lib.hid h
  have HS := Lib.hid hs
  have HL := Lib.hid hl
  clear h hs hl
  by_cases h100 : ss.length ≤ 100
  · have d1 : (ss.length : Int) ≤ 100 := by omega
    go_enter Try.func5, Try.ntmps5
    go_wp2_with (first
      | (go_at_call 10; refine (fits6_any HA.out HL.out HS.out).mono ?_; rintro e w1 ⟨b, rfl, hch⟩; have HC1 := Lib.hid hch; clear hch)
      | (go_at_call 11; refine (steps_two (HA.out.chg HC1.out) h100 HS.out).mono ?_; rintro e w2 ⟨hch, (⟨v2, rfl⟩ | ⟨v2, gs, S, rfl, hr, hgl, hg⟩)⟩)
      | (go_at_call 13; refine (script_any ((HA.out.chg HC1.out).chg hch) h100 HS.out hr).mono ?_; rintro e w3 ⟨hch3, v3, vs3, T3, rfl, hg3⟩)
      | (go_at_call 12; refine (same_any hg3.reads (hg.chg hch3) (by omega) (fun g hg' => by have := runS_small ss _ _ _ Sts.empty_wf hr g hg'; simp [Sts.empty] at this; omega)).mono ?_; rintro e w4 ⟨rfl, hch4⟩))
    · go_ret
      exact ⟨rfl, HC1.out⟩
    · go_ret
      exact ⟨rfl, HC1.out.trans hch (fun _ f => f.elim)⟩
    · go_ret
      exact ⟨rfl, ((HC1.out.trans hch (fun _ f => f.elim)).trans hch3 (fun _ f => f.elim)).trans hch4 (fun _ f => f.elim)⟩
  · have d1 : (100 : Int) < (ss.length : Int) := by omega
    go_enter Try.func5, Try.ntmps5
    go_wp2_with (go_at_call 10; refine (fits6_any HA.out HL.out HS.out).mono ?_; rintro e w1 ⟨b, rfl, hch⟩; have HC1 := Lib.hid hch; clear hch)
    all_goals (go_ret; exact ⟨rfl, HC1.out⟩)
end Go.Proofs.Ytipmpeekfajlcaa
