/-
  DERIVED. GIVEN WITH THE SEED: THE CARDS: each row of YtcpeldnikloebaaDoorRows.lean that lists a variable, with what it lists TIED to the program's text (the seventh form; the later family's looks); each row that meets fmt, with fmt's text TOLD by the authors' own Lean function (tested against real Go, not proved from fmt's source: count such statements apart). THE CARD IS WHAT COUNTS. Prove the row's statement (the work); the ties are given (YtcpeldnikloebaaDoorTie.lean); close each card by the builder's one call (the guide's Derived/Test/ToyasCard.lean, 'card_holds'). Laid BY PROGRAM, IN A SANDBOX (cutbox-door.mjs). By AI agents, Wed Nov 11 2026. No macro, syntax, notation, axiom, sorry.
-/
import Derived.Test.YtcpeldnikloebaaDoorRows
import GoSem.ClaimSeven
namespace Go.Proofs.YtcpeldnikloebaaDoor
namespace Rows

/-- THE TIED CARD OF 'laws.FnMerkleRead'. -/
def fnMerkleReadCard : Claim7 := { stood := { row := fnMerkleReadRow, standIns := [], harness := (true, "0fc4253cf56df52e0ad6f1d31da2a547ccee4311ba64ceee17d910eabcf984e5"), looks := true }, kinds := [], alts := [], laidByText := true, laidKinds := [.sentinel, .sentinel, .sentinel], laidTests := true, laidLooks := .later }
def FnMerkleReadCardSaid : Prop := Claim7.holds Tryd.pinned (.plain (OpenSpec.ofChange fnMerkleReadSpec)) fnMerkleReadCard

/-- THE SECOND FORM's CARD OF 'laws.FnMerkleRead'. -/
def fnMerkleReadUptoCard : Claim7 := { stood := { row := fnMerkleReadUptoRow, standIns := [], harness := (true, "0fc4253cf56df52e0ad6f1d31da2a547ccee4311ba64ceee17d910eabcf984e5"), looks := true }, kinds := [], alts := [], laidByText := true, laidKinds := [.sentinel, .sentinel, .sentinel], laidTests := true, laidLooks := .later }
def FnMerkleReadUptoCardSaid : Prop := Claim7.holds Tryd.pinned (.plain (OpenSpec.upto fnMerkleReadSpec)) fnMerkleReadUptoCard
end Rows
end Go.Proofs.YtcpeldnikloebaaDoor
