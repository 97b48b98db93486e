/- The walks of the law's size tests: they return some bool and only make memory. -/
import Derived.Test.YtipmpeekfajlcaaScript
namespace Go.Proofs.Ytipmpeekfajlcaa
open Go.RowKit

def BoolNew (w : World) (e : Ending) (w' : World) : Prop := ∃ b : Bool, e = .returned (.bool b) ∧ Chg (fun _ => False) w w'

set_option maxHeartbeats 1000000 in
theorem fits7_any (s : Stp) (w : World) (hs : s.name.size ≤ maxLen) : Calls Try.prog 20 #[stpV s] w (BoolNew w) := by
  obtain ⟨kd, sc, nm, ix⟩ := s
  unfold stpV
  simp only at hs ⊢
  unfold maxLen at hs
  by_cases h : (2147483647 : Int) < (nm.size : Int)
  all_goals
    go_enter Try.func20, Try.ntmps20
    go_wp2
    all_goals
      go_ret
      exact ⟨_, rfl, by repeat (first | exact Chg.refl _ _ | apply Chg.alloc | apply Chg.drew | apply Chg.drewN | (refine Chg.setCell ?_ (by first | exact .inl rfl | exact .inr (by first | (simp; done) | (simp; omega) | omega)) _) | fail)⟩

set_option maxHeartbeats 4000000 in
set_option maxRecDepth 100000 in
theorem fits6_any {w : World} {v : Value} {ss : List Stp} (h : StepsArg w v ss) (hl : ss.length ≤ maxLen) (hs : ∀ s ∈ ss, s.name.size ≤ maxLen) : Calls Try.prog 10 #[v] w (BoolNew w) := by
  unfold maxLen at hl
  rcases h with ⟨rfl, a, c, rfl⟩ | ⟨ab, ao, c, rfl, h0, hc⟩
  · go_enter Try.func10, Try.ntmps10
    go_wp2
    go_loopw [10] (fun i wr => i = .int .i64 0 ∧ wr = w) (fun _ _ => 0)
    case atStart => exact ⟨rfl, rfl⟩
    case round =>
      obtain ⟨rfl, rfl⟩ := hrel
      go_wp2
      go_ret
      exact ⟨_, rfl, Chg.refl _ _⟩
  · have hab : ab < w.heap.size := World.block_lt_of_cell? w _ (hc 0 h0).1
    have HC := Lib.hid hc
    have HS := Lib.hid hs
    clear hc hs
    by_cases hbig : (2147483647 : Int) < (ss.length : Int)
    · go_enter Try.func10, Try.ntmps10
      go_wp2
      go_ret
      exact ⟨_, rfl, Chg.refl _ _⟩
    · go_enter Try.func10, Try.ntmps10
      go_wp2
      go_loopw [10] (fun i wr => ∃ j : Nat, j ≤ ss.length ∧ i = .int .i64 j ∧ Chg (fun _ => False) w wr) (fun i _ => ss.length - (intOf i).toNat)
      case atStart => exact ⟨0, Nat.zero_le _, rfl, Chg.refl _ _⟩
      case round =>
        obtain ⟨j, hj, rfl, hch⟩ := hrel
        have hwz := hch.size
        have HCH := Lib.hid hch
        clear hch
        by_cases hlt : j < ss.length
        · obtain ⟨e0, e1, e2, e3⟩ := HC.out j hlt
          have c0 := HCH.out.cell e0 (fun f => f)
          have c1 := HCH.out.cell e1 (fun f => f)
          have c2 := HCH.out.cell e2 (fun f => f)
          have c3 := HCH.out.cell e3 (fun f => f)
          have hab1 : ab < wr.heap.size := by omega
          have HSZ := Lib.hid (HS.out ss[j] (List.getElem_mem hlt))
          clear e0 e1 e2 e3
          go_wp2_with (go_at_call 20; refine (fits7_any ss[j] _ HSZ.out).mono ?_; rintro e w1 ⟨b, rfl, hch1⟩; have HB := Lib.hid hch1; clear hch1)
          all_goals first
            | (go_ret; exact ⟨_, rfl, (HCH.out.alloc _).trans HB.out (fun _ f => f.elim)⟩)
            | exact ⟨⟨j + 1, by omega, by go_num, (HCH.out.alloc _).trans HB.out (fun _ f => f.elim)⟩, by simp [intOf]; omega⟩
        · go_wp2
          go_ret
          exact ⟨_, rfl, HCH.out⟩
end Go.Proofs.Ytipmpeekfajlcaa
