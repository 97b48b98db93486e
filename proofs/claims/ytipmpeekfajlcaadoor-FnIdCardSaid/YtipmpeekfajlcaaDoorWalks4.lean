/- The walk of the law FnId: it returns true wherever the table unicode.properties holds Go's values for the ASCII letters. -/
import Derived.Test.YtipmpeekfajlcaaDoorWalks3
namespace Go.Proofs.YtipmpeekfajlcaaDoor
open Go.RowKit

/-- What the walk asks of the table: at each ASCII byte a cell whose two letter bits say 'capital letter' just for A to Z. -/
def Props (w : World) : Prop := ∀ r : Nat, r < 128 → ∃ z : Int, w.cell? ⟨0, r, none⟩ = some (.int .u8 z) ∧ (bits .and .u8 z 96 == 32) = decide (65 ≤ (r : Int) ∧ (r : Int) ≤ 90)

set_option maxHeartbeats 1000000 in
theorem law_any (p n : ByteArray) (w : World) (wp : p.size ≤ maxLen) (wn : n.size ≤ maxLen) (hT : Props w) :
    Calls Tryd.prog 3 #[.string p, .string n] w fun e w' => e = .returned (.bool true) ∧ Grown w w' := by
  have WP := Lib.hid wp
  have WN := Lib.hid wn
  have HT := Lib.hid hT
  unfold maxLen at wp wn
  clear hT
  by_cases hp : p.size ≤ 2147483647
  · by_cases hn : n.size ≤ 2147483647
    · go_enter Tryd.func3, Tryd.ntmps3
      go_wp2_with fail
      refine (isName_any n _ WN.out).mono ?_
      rintro e w' ⟨b, rfl, rfl, hb⟩
      have HB := Lib.hid hb
      clear hb
      cases b with
      | false =>
        go_wp2_with fail
        go_ret
        exact ⟨rfl, Grown.refl _⟩
      | true =>
        go_wp2_with fail
        refine (isPath_any p _ WP.out).mono ?_
        rintro e w' ⟨b, rfl, rfl, hb2⟩
        have HB2 := Lib.hid hb2
        clear hb2
        cases b with
        | false =>
          go_wp2_with fail
          go_ret
          exact ⟨rfl, Grown.refl _⟩
        | true =>
          obtain ⟨h, hlo⟩ := HB.out trivial
          obtain ⟨z, hz, hu⟩ := HT.out _ hlo
          have HZ := Lib.hid hz
          have HU := Lib.hid hu
          clear hz hu
          go_wp2_with fail
          refine (idOf_any p n z _ h (by omega) HZ.out HU.out (HB2.out trivial) hp hn).mono ?_
          rintro e w1 ⟨rfl, hg⟩
          have HG := Lib.hid hg
          clear hg
          go_wp2_with fail
          refine (specId_any p n _ h hp hn).mono ?_
          rintro e w2 ⟨rfl, rfl⟩
          go_wp2_with fail
          go_ret
          exact ⟨rfl, HG.out⟩
    · go_enter Tryd.func3, Tryd.ntmps3
      go_wp2_with fail
      go_ret
      exact ⟨rfl, Grown.refl _⟩
  · go_enter Tryd.func3, Tryd.ntmps3
    go_wp2_with fail
    go_ret
    exact ⟨rfl, Grown.refl _⟩
end Go.Proofs.YtipmpeekfajlcaaDoor
