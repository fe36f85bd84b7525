/-
  DERIVED. GIVEN WITH THE SEED: THE CARDS: each row of YtmaffdhcmdhjfaaDoorRows.lean that lists a variable, with what it lists TIED to the program's text (the seventh form; the later family's looks); each row that meets fmt, with fmt's text TOLD by the authors' own Lean function (tested against real Go, not proved from fmt's source: count such statements apart). THE CARD IS WHAT COUNTS. Prove the row's statement (the work); the ties are given (YtmaffdhcmdhjfaaDoorTie.lean); close each card by the builder's one call (the guide's Derived/Test/ToyasCard.lean, 'card_holds'). Laid BY PROGRAM, IN A SANDBOX (cutbox-door.mjs). By AI agents, Wed Nov 11 2026. No macro, syntax, notation, axiom, sorry.
-/
import Derived.Test.YtmaffdhcmdhjfaaDoorRows
import GoSem.ClaimSeven
namespace Go.Proofs.YtmaffdhcmdhjfaaDoor
namespace Rows

/-- THE TIED CARD OF 'laws.FnSimple'. -/
def fnSimpleCard : Claim7 := { stood := { row := fnSimpleRow, standIns := [], harness := (true, "cb269c36569cd7ed1ef1e801b058f1a7d92223495fef4044bdd1a4e314a4275b"), looks := true }, kinds := [], alts := [], laidByText := true, laidKinds := [.data, .data, .data], laidTests := true, laidLooks := .later }
def FnSimpleCardSaid : Prop := Claim7.holds Tryd.pinned (.plain (OpenSpec.ofChange fnSimpleSpec)) fnSimpleCard

/-- THE TIED CARD OF 'laws.FnOnce'. -/
def fnOnceCard : Claim7 := { stood := { row := fnOnceRow, standIns := [], harness := (true, "cb269c36569cd7ed1ef1e801b058f1a7d92223495fef4044bdd1a4e314a4275b"), looks := true }, kinds := [], alts := [], laidByText := true, laidKinds := [.data, .data, .data, .sentinel], laidTests := true, laidLooks := .later }
def FnOnceCardSaid : Prop := Claim7.holds Tryd.pinned (.plain (OpenSpec.ofChange fnOnceSpec)) fnOnceCard

/-- THE SECOND FORM's CARD OF 'laws.FnSimple'. -/
def fnSimpleUptoCard : Claim7 := { stood := { row := fnSimpleUptoRow, standIns := [], harness := (true, "cb269c36569cd7ed1ef1e801b058f1a7d92223495fef4044bdd1a4e314a4275b"), looks := true }, kinds := [], alts := [], laidByText := true, laidKinds := [.data, .data, .data], laidTests := true, laidLooks := .later }
def FnSimpleUptoCardSaid : Prop := Claim7.holds Tryd.pinned (.plain (OpenSpec.upto fnSimpleSpec)) fnSimpleUptoCard

/-- THE SECOND FORM's CARD OF 'laws.FnOnce'. -/
def fnOnceUptoCard : Claim7 := { stood := { row := fnOnceUptoRow, standIns := [], harness := (true, "cb269c36569cd7ed1ef1e801b058f1a7d92223495fef4044bdd1a4e314a4275b"), looks := true }, kinds := [], alts := [], laidByText := true, laidKinds := [.data, .data, .data, .sentinel], laidTests := true, laidLooks := .later }
def FnOnceUptoCardSaid : Prop := Claim7.holds Tryd.pinned (.plain (OpenSpec.upto fnOnceSpec)) fnOnceUptoCard
end Rows
end Go.Proofs.YtmaffdhcmdhjfaaDoor
