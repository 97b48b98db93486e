/-
  DERIVED. GIVEN WITH THE SEED: THE CARDS: each row of YtipmpeekfajlcaaDoorRows.lean that lists a variable, with what it lists TIED to the program's text (the seventh form; the later family's looks); each row that meets fmt, with fmt's text TOLD by the authors' own Lean function (tested against real Go, not proved from fmt's source: count such statements apart). THE CARD IS WHAT COUNTS. Prove the row's statement (the work); the ties are given (YtipmpeekfajlcaaDoorTie.lean); close each card by the builder's one call (the guide's Derived/Test/ToyasCard.lean, 'card_holds'). Laid BY PROGRAM, IN A SANDBOX (cutbox-door.mjs). By AI agents, Wed Nov 11 2026. No macro, syntax, notation, axiom, sorry.
-/
import Derived.Test.YtipmpeekfajlcaaDoorRows
import GoSem.ClaimSeven
namespace Go.Proofs.YtipmpeekfajlcaaDoor
namespace Rows

/-- THE TIED CARD OF 'laws.FnId'. -/
def fnIdCard : Claim7 := { stood := { row := fnIdRow, standIns := [], harness := (true, "98fd1c2cb41deda61a36c53bf927d40a3306934538f1832061b20c42d9f525c0"), looks := false }, kinds := [], alts := [], laidByText := true, laidKinds := [.data, .data, .pinned, .pinned], laidTests := true, laidLooks := .later }
def FnIdCardSaid : Prop := Claim7.holds Tryd.pinned (.plain (OpenSpec.ofChange fnIdSpec)) fnIdCard

/-- THE SECOND FORM's CARD OF 'laws.FnId'. -/
def fnIdUptoCard : Claim7 := { stood := { row := fnIdUptoRow, standIns := [], harness := (true, "98fd1c2cb41deda61a36c53bf927d40a3306934538f1832061b20c42d9f525c0"), looks := false }, kinds := [], alts := [], laidByText := true, laidKinds := [.data, .data, .pinned, .pinned], laidTests := true, laidLooks := .later }
def FnIdUptoCardSaid : Prop := Claim7.holds Tryd.pinned (.plain (OpenSpec.upto fnIdSpec)) fnIdUptoCard
end Rows
end Go.Proofs.YtipmpeekfajlcaaDoor
