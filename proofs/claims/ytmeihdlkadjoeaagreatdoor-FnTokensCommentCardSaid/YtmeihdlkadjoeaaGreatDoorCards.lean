/-
  DERIVED. GIVEN WITH THE SEED: THE CARDS: each row of YtmeihdlkadjoeaaGreatDoorRows.lean that lists a variable, with what it lists TIED to the program's text (the seventh form; the later family's looks); each row that meets fmt, with fmt's text TOLD by the authors' own Lean function (tested against real Go, not proved from fmt's source: count such statements apart). THE CARD IS WHAT COUNTS. Prove the row's statement (the work); the ties are given (YtmeihdlkadjoeaaGreatDoorTie.lean); close each card by the builder's one call (the guide's Derived/Test/ToyasCard.lean, 'card_holds'). Laid BY PROGRAM, IN A SANDBOX (cutbox-door.mjs). By AI agents, Wed Nov 11 2026. No macro, syntax, notation, axiom, sorry.
-/
import Derived.Test.YtmeihdlkadjoeaaGreatDoorRows
import GoSem.ClaimSeven
namespace Go.Proofs.YtmeihdlkadjoeaaGreatDoor
namespace Rows

/-- THE TIED CARD OF 'laws.FnTokens'. -/
def fnTokensCard : Claim7 := { stood := { row := fnTokensRow, standIns := [], harness := (true, "37852aa3d1e121c245bbe1b668e5ba947a8ab992cbe45e212491b9171d792422"), looks := true }, kinds := [], alts := [], laidByText := true, laidKinds := [.data, .sentinel, .listed, .data, .sentinel, .data, .pinned, .pinned, .pinned], laidTests := true, laidLooks := .later }
def FnTokensCardSaid : Prop := Claim7.holds Tryz.pinned (.plain (OpenSpec.ofChange fnTokensSpec)) fnTokensCard

/-- THE TIED CARD OF 'laws.FnTokensApart'. -/
def fnTokensApartCard : Claim7 := { stood := { row := fnTokensApartRow, standIns := [], harness := (true, "37852aa3d1e121c245bbe1b668e5ba947a8ab992cbe45e212491b9171d792422"), looks := true }, kinds := [], alts := [], laidByText := true, laidKinds := [.data, .sentinel, .listed, .data, .sentinel, .data, .pinned, .pinned, .pinned], laidTests := true, laidLooks := .later }
def FnTokensApartCardSaid : Prop := Claim7.holds Tryz.pinned (.plain (OpenSpec.ofChange fnTokensApartSpec)) fnTokensApartCard

/-- THE TIED CARD OF 'laws.FnTokensBlock'. -/
def fnTokensBlockCard : Claim7 := { stood := { row := fnTokensBlockRow, standIns := [], harness := (true, "37852aa3d1e121c245bbe1b668e5ba947a8ab992cbe45e212491b9171d792422"), looks := true }, kinds := [], alts := [], laidByText := true, laidKinds := [.data, .sentinel, .listed, .data, .sentinel, .data, .pinned, .pinned, .pinned], laidTests := true, laidLooks := .later }
def FnTokensBlockCardSaid : Prop := Claim7.holds Tryz.pinned (.plain (OpenSpec.ofChange fnTokensBlockSpec)) fnTokensBlockCard

/-- THE TIED CARD OF 'laws.FnTokensComment'. -/
def fnTokensCommentCard : Claim7 := { stood := { row := fnTokensCommentRow, standIns := [], harness := (true, "37852aa3d1e121c245bbe1b668e5ba947a8ab992cbe45e212491b9171d792422"), looks := true }, kinds := [], alts := [], laidByText := true, laidKinds := [.data, .sentinel, .listed, .data, .sentinel, .data, .pinned, .pinned, .pinned], laidTests := true, laidLooks := .later }
def FnTokensCommentCardSaid : Prop := Claim7.holds Tryz.pinned (.plain (OpenSpec.ofChange fnTokensCommentSpec)) fnTokensCommentCard

/-- THE TIED CARD OF 'laws.FnTokensGap'. -/
def fnTokensGapCard : Claim7 := { stood := { row := fnTokensGapRow, standIns := [], harness := (true, "37852aa3d1e121c245bbe1b668e5ba947a8ab992cbe45e212491b9171d792422"), looks := true }, kinds := [], alts := [], laidByText := true, laidKinds := [.data, .sentinel, .listed, .data, .sentinel, .data, .pinned, .pinned, .pinned], laidTests := true, laidLooks := .later }
def FnTokensGapCardSaid : Prop := Claim7.holds Tryz.pinned (.plain (OpenSpec.ofChange fnTokensGapSpec)) fnTokensGapCard

/-- THE SECOND FORM's CARD OF 'laws.FnTokens'. -/
def fnTokensUptoCard : Claim7 := { stood := { row := fnTokensUptoRow, standIns := [], harness := (true, "37852aa3d1e121c245bbe1b668e5ba947a8ab992cbe45e212491b9171d792422"), looks := true }, kinds := [], alts := [], laidByText := true, laidKinds := [.data, .sentinel, .listed, .data, .sentinel, .data, .pinned, .pinned, .pinned], laidTests := true, laidLooks := .later }
def FnTokensUptoCardSaid : Prop := Claim7.holds Tryz.pinned (.plain (OpenSpec.upto fnTokensSpec)) fnTokensUptoCard

/-- THE SECOND FORM's CARD OF 'laws.FnTokensApart'. -/
def fnTokensApartUptoCard : Claim7 := { stood := { row := fnTokensApartUptoRow, standIns := [], harness := (true, "37852aa3d1e121c245bbe1b668e5ba947a8ab992cbe45e212491b9171d792422"), looks := true }, kinds := [], alts := [], laidByText := true, laidKinds := [.data, .sentinel, .listed, .data, .sentinel, .data, .pinned, .pinned, .pinned], laidTests := true, laidLooks := .later }
def FnTokensApartUptoCardSaid : Prop := Claim7.holds Tryz.pinned (.plain (OpenSpec.upto fnTokensApartSpec)) fnTokensApartUptoCard

/-- THE SECOND FORM's CARD OF 'laws.FnTokensBlock'. -/
def fnTokensBlockUptoCard : Claim7 := { stood := { row := fnTokensBlockUptoRow, standIns := [], harness := (true, "37852aa3d1e121c245bbe1b668e5ba947a8ab992cbe45e212491b9171d792422"), looks := true }, kinds := [], alts := [], laidByText := true, laidKinds := [.data, .sentinel, .listed, .data, .sentinel, .data, .pinned, .pinned, .pinned], laidTests := true, laidLooks := .later }
def FnTokensBlockUptoCardSaid : Prop := Claim7.holds Tryz.pinned (.plain (OpenSpec.upto fnTokensBlockSpec)) fnTokensBlockUptoCard

/-- THE SECOND FORM's CARD OF 'laws.FnTokensComment'. -/
def fnTokensCommentUptoCard : Claim7 := { stood := { row := fnTokensCommentUptoRow, standIns := [], harness := (true, "37852aa3d1e121c245bbe1b668e5ba947a8ab992cbe45e212491b9171d792422"), looks := true }, kinds := [], alts := [], laidByText := true, laidKinds := [.data, .sentinel, .listed, .data, .sentinel, .data, .pinned, .pinned, .pinned], laidTests := true, laidLooks := .later }
def FnTokensCommentUptoCardSaid : Prop := Claim7.holds Tryz.pinned (.plain (OpenSpec.upto fnTokensCommentSpec)) fnTokensCommentUptoCard

/-- THE SECOND FORM's CARD OF 'laws.FnTokensGap'. -/
def fnTokensGapUptoCard : Claim7 := { stood := { row := fnTokensGapUptoRow, standIns := [], harness := (true, "37852aa3d1e121c245bbe1b668e5ba947a8ab992cbe45e212491b9171d792422"), looks := true }, kinds := [], alts := [], laidByText := true, laidKinds := [.data, .sentinel, .listed, .data, .sentinel, .data, .pinned, .pinned, .pinned], laidTests := true, laidLooks := .later }
def FnTokensGapUptoCardSaid : Prop := Claim7.holds Tryz.pinned (.plain (OpenSpec.upto fnTokensGapSpec)) fnTokensGapUptoCard
end Rows
end Go.Proofs.YtmeihdlkadjoeaaGreatDoor
