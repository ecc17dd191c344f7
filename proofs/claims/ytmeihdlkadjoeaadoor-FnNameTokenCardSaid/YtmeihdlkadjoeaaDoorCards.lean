/-
  DERIVED. GIVEN WITH THE SEED: THE CARDS: each row of YtmeihdlkadjoeaaDoorRows.lean that lists a variable, with what it lists TIED to the program's text (the seventh form; the later family's looks); each row that meets fmt, with fmt's text TOLD by the authors' own Lean function (tested against real Go, not proved from fmt's source: count such statements apart). THE CARD IS WHAT COUNTS. Prove the row's statement (the work); the ties are given (YtmeihdlkadjoeaaDoorTie.lean); close each card by the builder's one call (the guide's Derived/Test/ToyasCard.lean, 'card_holds'). Laid BY PROGRAM, IN A SANDBOX (cutbox-door.mjs). By AI agents, Wed Nov 11 2026. No macro, syntax, notation, axiom, sorry.
-/
import Derived.Test.YtmeihdlkadjoeaaDoorRows
import GoSem.ClaimSeven
namespace Go.Proofs.YtmeihdlkadjoeaaDoor
namespace Rows

/-- THE TIED CARD OF 'laws.FnReadTokens'. -/
def fnReadTokensCard : Claim7 := { stood := { row := fnReadTokensRow, standIns := [], harness := (true, "22e512bd5375eb2d9c222cc52e3aae8a79c0de8f3e98ce64895dfbcc8c90c50c"), looks := true }, kinds := [], alts := [], laidByText := true, laidKinds := [.data, .sentinel, .listed, .data, .sentinel, .data, .pinned, .pinned, .pinned], laidTests := true, laidLooks := .later }
def FnReadTokensCardSaid : Prop := Claim7.holds Tryd.pinned (.plain (OpenSpec.ofChange fnReadTokensSpec)) fnReadTokensCard

/-- THE TIED CARD OF 'laws.FnTokensOne'. -/
def fnTokensOneCard : Claim7 := { stood := { row := fnTokensOneRow, standIns := [], harness := (true, "22e512bd5375eb2d9c222cc52e3aae8a79c0de8f3e98ce64895dfbcc8c90c50c"), looks := true }, kinds := [], alts := [], laidByText := true, laidKinds := [.data, .sentinel, .listed, .data, .sentinel, .data, .pinned, .pinned, .pinned], laidTests := true, laidLooks := .later }
def FnTokensOneCardSaid : Prop := Claim7.holds Tryd.pinned (.plain (OpenSpec.ofChange fnTokensOneSpec)) fnTokensOneCard

/-- THE TIED CARD OF 'laws.FnNameToken'. -/
def fnNameTokenCard : Claim7 := { stood := { row := fnNameTokenRow, standIns := [], harness := (true, "22e512bd5375eb2d9c222cc52e3aae8a79c0de8f3e98ce64895dfbcc8c90c50c"), looks := true }, kinds := [], alts := [], laidByText := true, laidKinds := [.data, .sentinel, .listed, .data, .sentinel, .data, .pinned, .pinned, .pinned], laidTests := true, laidLooks := .later }
def FnNameTokenCardSaid : Prop := Claim7.holds Tryd.pinned (.plain (OpenSpec.ofChange fnNameTokenSpec)) fnNameTokenCard

/-- THE SECOND FORM's CARD OF 'laws.FnReadTokens'. -/
def fnReadTokensUptoCard : Claim7 := { stood := { row := fnReadTokensUptoRow, standIns := [], harness := (true, "22e512bd5375eb2d9c222cc52e3aae8a79c0de8f3e98ce64895dfbcc8c90c50c"), looks := true }, kinds := [], alts := [], laidByText := true, laidKinds := [.data, .sentinel, .listed, .data, .sentinel, .data, .pinned, .pinned, .pinned], laidTests := true, laidLooks := .later }
def FnReadTokensUptoCardSaid : Prop := Claim7.holds Tryd.pinned (.plain (OpenSpec.upto fnReadTokensSpec)) fnReadTokensUptoCard

/-- THE SECOND FORM's CARD OF 'laws.FnTokensOne'. -/
def fnTokensOneUptoCard : Claim7 := { stood := { row := fnTokensOneUptoRow, standIns := [], harness := (true, "22e512bd5375eb2d9c222cc52e3aae8a79c0de8f3e98ce64895dfbcc8c90c50c"), looks := true }, kinds := [], alts := [], laidByText := true, laidKinds := [.data, .sentinel, .listed, .data, .sentinel, .data, .pinned, .pinned, .pinned], laidTests := true, laidLooks := .later }
def FnTokensOneUptoCardSaid : Prop := Claim7.holds Tryd.pinned (.plain (OpenSpec.upto fnTokensOneSpec)) fnTokensOneUptoCard

/-- THE SECOND FORM's CARD OF 'laws.FnNameToken'. -/
def fnNameTokenUptoCard : Claim7 := { stood := { row := fnNameTokenUptoRow, standIns := [], harness := (true, "22e512bd5375eb2d9c222cc52e3aae8a79c0de8f3e98ce64895dfbcc8c90c50c"), looks := true }, kinds := [], alts := [], laidByText := true, laidKinds := [.data, .sentinel, .listed, .data, .sentinel, .data, .pinned, .pinned, .pinned], laidTests := true, laidLooks := .later }
def FnNameTokenUptoCardSaid : Prop := Claim7.holds Tryd.pinned (.plain (OpenSpec.upto fnNameTokenSpec)) fnNameTokenUptoCard
end Rows
end Go.Proofs.YtmeihdlkadjoeaaDoor
