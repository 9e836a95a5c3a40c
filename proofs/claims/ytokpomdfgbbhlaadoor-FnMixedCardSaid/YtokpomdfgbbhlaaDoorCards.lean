/-
  DERIVED. GIVEN WITH THE SEED: THE CARDS: each row of YtokpomdfgbbhlaaDoorRows.lean that lists a variable, with what it lists TIED to the program's text (the seventh form; the later family's looks); each row that meets fmt, with fmt's text TOLD by the authors' own Lean function (tested against real Go, not proved from fmt's source: count such statements apart). THE CARD IS WHAT COUNTS. Prove the row's statement (the work); the ties are given (YtokpomdfgbbhlaaDoorTie.lean); close each card by the builder's one call (the guide's Derived/Test/ToyasCard.lean, 'card_holds'). Laid BY PROGRAM, IN A SANDBOX (cutbox-door.mjs). By AI agents, Wed Nov 11 2026. No macro, syntax, notation, axiom, sorry.
-/
import Derived.Test.YtokpomdfgbbhlaaDoorRows
import GoSem.ClaimSeven
namespace Go.Proofs.YtokpomdfgbbhlaaDoor
namespace Rows

/-- THE TIED CARD OF 'laws.FnAlike'. -/
def fnAlikeCard : Claim7 := { stood := { row := fnAlikeRow, standIns := [], harness := (true, "a5c91925de61307a20cc81b23ff69d4345af9d4a4477e8d6f9dedf165a2963ad"), looks := true }, kinds := [], alts := [], laidByText := true, laidKinds := [.data], laidTests := true, laidLooks := .later }
def FnAlikeCardSaid : Prop := Claim7.holds Tryd.pinned (.plain (OpenSpec.ofChange fnAlikeSpec)) fnAlikeCard

/-- THE TIED CARD OF 'laws.FnRoot'. -/
def fnRootCard : Claim7 := { stood := { row := fnRootRow, standIns := [], harness := (true, "a5c91925de61307a20cc81b23ff69d4345af9d4a4477e8d6f9dedf165a2963ad"), looks := true }, kinds := [], alts := [], laidByText := true, laidKinds := [.data], laidTests := true, laidLooks := .later }
def FnRootCardSaid : Prop := Claim7.holds Tryd.pinned (.plain (OpenSpec.ofChange fnRootSpec)) fnRootCard

/-- THE TIED CARD OF 'laws.FnWalk'. -/
def fnWalkCard : Claim7 := { stood := { row := fnWalkRow, standIns := [], harness := (true, "a5c91925de61307a20cc81b23ff69d4345af9d4a4477e8d6f9dedf165a2963ad"), looks := true }, kinds := [], alts := [], laidByText := true, laidKinds := [.sentinel, .data], laidTests := true, laidLooks := .later }
def FnWalkCardSaid : Prop := Claim7.holds Tryd.pinned (.plain (OpenSpec.ofChange fnWalkSpec)) fnWalkCard

/-- THE TIED CARD OF 'laws.FnCodes'. -/
def fnCodesCard : Claim7 := { stood := { row := fnCodesRow, standIns := [], harness := (true, "a5c91925de61307a20cc81b23ff69d4345af9d4a4477e8d6f9dedf165a2963ad"), looks := true }, kinds := [], alts := [], laidByText := true, laidKinds := [.sentinel, .data], laidTests := true, laidLooks := .later }
def FnCodesCardSaid : Prop := Claim7.holds Tryd.pinned (.plain (OpenSpec.ofChange fnCodesSpec)) fnCodesCard

/-- THE TIED CARD OF 'laws.FnMixed'. -/
def fnMixedCard : Claim7 := { stood := { row := fnMixedRow, standIns := [], harness := (true, "a5c91925de61307a20cc81b23ff69d4345af9d4a4477e8d6f9dedf165a2963ad"), looks := true }, kinds := [], alts := [], laidByText := true, laidKinds := [.sentinel, .data], laidTests := true, laidLooks := .later }
def FnMixedCardSaid : Prop := Claim7.holds Tryd.pinned (.plain (OpenSpec.ofChange fnMixedSpec)) fnMixedCard

/-- THE SECOND FORM's CARD OF 'laws.FnRoot'. -/
def fnRootUptoCard : Claim7 := { stood := { row := fnRootUptoRow, standIns := [], harness := (true, "a5c91925de61307a20cc81b23ff69d4345af9d4a4477e8d6f9dedf165a2963ad"), looks := true }, kinds := [], alts := [], laidByText := true, laidKinds := [.data], laidTests := true, laidLooks := .later }
def FnRootUptoCardSaid : Prop := Claim7.holds Tryd.pinned (.plain (OpenSpec.upto fnRootSpec)) fnRootUptoCard
end Rows
end Go.Proofs.YtokpomdfgbbhlaaDoor
