/- The law FnId is true at every two strings: the unique name of a name is the name itself if it begins with a capital letter, and otherwise the path, a point and the name; both arguments read afterwards as before. Conditions: the four listed variables of Go's library read as listed when the call begins; the card ties that to the program's text. -/
import Derived.Test.YtipmpeekfajlcaaDoorRows
import Derived.Test.YtipmpeekfajlcaaDoorCards
import Derived.Test.YtipmpeekfajlcaaDoorTie
import Derived.Test.YtipmpeekfajlcaaDoorWalks4
import Derived.WalkKit
import Derived.ProofKit
import Derived.OpenShut
import Derived.ShutString
import Derived.LaidMore
import Derived.Lay
import Derived.SevenTiedAt
import Derived.Stop.Joined
import Derived.Stop.LaidErr
namespace Go.Proofs.YtipmpeekfajlcaaDoor.fnId
open Go.ChangeShapes Go.WideShapes Go.ChangeAt Go.RowKit
open Go.ChangeMaps (open_string shut_string)
set_option linter.unusedVariables false

theorem own : ownKnob Tryd.prog.godebug = none := by kernel_rfl

/-- The listed table's parts. -/
def parts : List (DataW Unit) := match (Rows.laid_unicode_properties : DataW Unit) with
  | .agg l => l
  | _ => []
/-- At an ASCII place the table holds a byte whose letter bits say 'capital letter' just for A to Z. -/
def fits (r : Nat) : Bool := match parts[r]? with
  | some (.lit (.int .u8 z)) => (bits .and .u8 z 96 == 32) == decide (65 ≤ (r : Int) ∧ (r : Int) ≤ 90)
  | _ => false
theorem fits_all : (List.range 128).all fits = true := by kernel_rfl

theorem props {W : World} (h : laidMetH Tryd.prog Rows.fnIdRow.laid W) : Props W := by
  intro r hr
  rw [MakeChecks.laidMetH_plain _ _ _ (by kernel_rfl)] at h
  have h2 := laidMet.tail h
  obtain ⟨ps, ⟨g, t, cs, fuel, p, q, hg, ht, hv, hd, _, _⟩, _, _⟩ := h2
  obtain rfl := Option.some.inj ((show Tryd.prog.globalNamed "unicode.properties" = some 0 by kernel_rfl).symm.trans hg)
  obtain rfl := Option.some.inj ((show (Tryd.prog.globals[0]?).map (·.type) = some 42 by kernel_rfl).symm.trans ht)
  obtain ⟨xs, m, _, ex, _, hl, hel⟩ := DataW.trod_array Tryd.underlying42 hd
  have c5 : Tryd.prog.cellsOf 5 = 1 := by kernel_rfl
  have hE := hel r (by omega)
  rw [c5, Nat.mul_one, List.getElem?_eq_getElem (by omega)] at hE
  obtain ⟨z, e1, e2, _⟩ := DataW.trod_int Tryd.underlying5 hE
  have e3 : (xs.map (·.1)) = parts := (DataW.agg.inj (Prod.mk.inj ex).1).symm
  have e4 : parts[r]? = some (.lit (.int .u8 z)) := by
    rw [← e3, List.getElem?_map, List.getElem?_eq_getElem (by omega : r < xs.length), Option.map_some, e2]
  refine ⟨z, ?_, ?_⟩
  · rw [World.var?_cell hg hv r]
    have : cs.toList[r]? = some (.int .u8 z) := by
      have h0 : ((cs.toList.drop r).take 1)[0]? = some (.int .u8 z) := by rw [e1]; rfl
      simpa using h0
    simpa using this
  · have hf := List.all_eq_true.1 fits_all r (List.mem_range.2 hr)
    unfold fits at hf
    rw [e4] at hf
    exact eq_of_beq hf

set_option maxRecDepth 100000 in
theorem lifted (os : Os) (started : os.Started) (H : Type) (enc : TypeId × Value → H) :
    ReturnsInHanded {} Tryd.checked os 3 .any (fun w args => (Rows.fnIdSpec.pre enc Tryd.prog Tryd.f3 Rows.fnIdRow.domain false w args ∧ laidMetH Tryd.prog Rows.fnIdRow.laid w) ∧ sizedMet enc Tryd.prog Tryd.f3 (OpenSpec.ofChange Rows.fnIdSpec) false w args)
      (Rows.fnIdSpec.post enc Tryd.prog Tryd.f3 false true false false) := by
  refine returnsInHanded_of_change_and (C := Tryd.checked) (X := fun w _ => laidMetH Tryd.prog Rows.fnIdRow.laid w) (fun _ _ _ hh h => h.of_heap hh) own started (by kernel_rfl) Tryd.func3
    (ChangeSpec.witness_shaped (enc := enc) (C := Tryd.checked) (os := os) (X := fun w _ => laidMetH Tryd.prog Rows.fnIdRow.laid w) false (World.laidAll Tryd.prog os Rows.fnIdRow.laid) #[.string ByteArray.empty, .string ByteArray.empty] 8 (World.laidAll_os _ _ _)
      (World.shaped_of_ZipB (by kernel_rfl) (by kernel_rfl)) (by kernel_rfl) (by kernel_rfl) (by kernel_rfl)
      (by rw [MakeChecks.laidMetH_plain _ _ _ (by kernel_rfl)]; exact laidMet_laidAll _ (by kernel_rfl) (by kernel_rfl))) ?_
  intro W base args ds gs before hval0 hW hc _ hL _
  have hval : ∀ (j : Nat) t v, Tryd.f3.params[j]? = some t → args[j]? = some v → Value.okWide Tryd.prog W .any base t v := hval0
  have hW' := hW
  obtain ⟨p, q, hA0, hV, rfl, _, _⟩ := hW
  have hA : DataW.TrodAll enc Tryd.prog W 0 (fun _ => true) true Tryd.f3.params.toList args.toList ds p := hA0
  rw [Tryd.params3] at hA hval
  obtain ⟨v0, vs0, d0, ds0, p0, q0, hargs, rfl, rfl, h0, r0⟩ := trodAll_cons hA
  obtain ⟨v1, vs1, d1, ds1, p1, q1, rfl, rfl, rfl, h1, r1⟩ := trodAll_cons r0
  obtain ⟨rfl, rfl, rfl⟩ := trodAll_nil r1
  obtain rfl : args = #[v0, v1] := by cases args; simp_all
  obtain ⟨rfl, rfl⟩ := trodVars_none hV
  obtain ⟨a0, rfl, rfl, rfl, w0⟩ := open_string Tryd.underlying9 (hval 0 9 v0 rfl rfl) h0
  obtain ⟨a1, rfl, rfl, rfl, w1⟩ := open_string Tryd.underlying9 (hval 1 9 v1 rfl rfl) h1
  clear hA0 hval0
  simp only [List.append_nil] at hW'
  refine (law_any a0 a1 W w0 w1 (props hL)).mono fun e W' ⟨he, hg⟩ => ?_
  subst he
  exact ⟨_, rfl, post_of_same (pa := []) (pv := []) hW' (fun _ _ _ => (trodAll_cons_mk (shut_bool Tryd.underlying4 _) trodAll_mk0)) (fun sp _ => (trodAll_cons_mk (shut_string Tryd.underlying9 w0) (trodAll_cons_mk (shut_string Tryd.underlying9 w1) trodAll_mk0))) (fun _ _ => rfl) rfl
    (hg.frame _) hg.2.1 (ok_one (by kernel_rfl) rfl (okWide_bool_mk Tryd.underlying4 _))⟩

theorem holds : Rows.FnIdSaid :=
  OpenClaim.holds_of_wide 3 Tryd.f3 rfl rfl rfl rfl rfl rfl rfl ⟨rfl, rfl, rfl, rfl, rfl⟩ rfl rfl rfl rfl rfl (by kernel_rfl) Tryd.func3 (by kernel_rfl)
    (of_decide_eq_true (by kernel_rfl)) (by unfold Func.isWrapper; first | (rw [if_pos (by decide +kernel)]; kernel_rfl) | (rw [if_neg (by decide +kernel)]; exact ⟨rfl, rfl⟩))
    (fun os started H enc _ => lifted os started H enc)

/-- The statement: the tied card. -/
theorem proved : Rows.FnIdCardSaid :=
  Claim7.holds_tied_plain_at .later [] [.data, .data, .pinned, .pinned] true (true, "98fd1c2cb41deda61a36c53bf927d40a3306934538f1832061b20c42d9f525c0") false holds (fun _ h => by cases h) (by kernel_rfl) (fun _ h => by cases h) fnId_row_tie rfl ⟨rfl, rfl⟩ (by kernel_rfl) rfl
    (fun f fn hf hfn => by
      obtain rfl : f = 3 := Option.some.inj ((show Tryd.prog.funcNamed "loop.example/pub-g01466/laws.FnId" = some 3 by kernel_rfl).symm.trans hf) |>.symm
      obtain rfl : fn = Tryd.f3 := (Option.some.inj (Tryd.func3.symm.trans hfn)).symm
      exact ⟨by kernel_rfl, fun j t ht => by
        rw [Tryd.params3] at ht
        have hm : t ∈ [9, 9] := by simpa using Array.mem_of_getElem? ht
        have hall : ([9, 9].all fun u => !Tryd.prog.wantsStandIn u) = true := by kernel_rfl
        exact (show Tryd.prog.wantsStandIn t = false by simpa using List.all_eq_true.1 hall t hm)⟩)
    (by kernel_rfl)
#print axioms proved
end Go.Proofs.YtipmpeekfajlcaaDoor.fnId
