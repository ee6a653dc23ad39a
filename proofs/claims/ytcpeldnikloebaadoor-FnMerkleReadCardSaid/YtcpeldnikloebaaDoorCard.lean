/- Data read in segments have the root of the segments as leaves, as many leaves, and a proof of the segment asked for that the package accepts: laws.FnMerkleRead answers true for every input, and the input reads as it did.
   Conditions: the three listed variables (io.EOF, io.ErrUnexpectedEOF, io.ErrShortBuffer) hold what the program's text lays in them: tied to that text by the given tie. -/
import Derived.Test.YtcpeldnikloebaaDoorRow
import Derived.Test.YtcpeldnikloebaaDoorTie
import Derived.Test.YtcpeldnikloebaaDoorCards
import Derived.SevenTiedAt
set_option linter.unusedVariables false
set_option linter.unusedSimpArgs false
namespace Go.Proofs.YtcpeldnikloebaaDoor
open Go

theorem fnMerkleRead_card : Rows.FnMerkleReadCardSaid :=
  Claim7.holds_tied_plain_at .later [] [.sentinel, .sentinel, .sentinel] true (true, "0fc4253cf56df52e0ad6f1d31da2a547ccee4311ba64ceee17d910eabcf984e5") true
    fnMerkleRead_row (fun _ h => by cases h) (by kernel_rfl) (fun _ h => by cases h) fnMerkleRead_row_tie rfl ⟨rfl, rfl⟩ (by kernel_rfl) rfl
    (fun f fn hf hfn => by
      obtain rfl : f = 3 := Option.some.inj ((show Tryd.prog.funcNamed "pub-foxglove/laws.FnMerkleRead" = some 3 by kernel_rfl).symm.trans hf) |>.symm
      obtain rfl : fn = Tryd.f3 := (Option.some.inj (Tryd.func3.symm.trans hfn)).symm
      exact ⟨by kernel_rfl, fun j t ht => by
        rw [Tryd.params3] at ht
        have hm : t ∈ [22, 5, 5] := by simpa using Array.mem_of_getElem? ht
        have hall : ([22, 5, 5].all fun u => !Tryd.prog.wantsStandIn u) = true := by kernel_rfl
        exact (show Tryd.prog.wantsStandIn t = false by simpa using List.all_eq_true.1 hall t hm)⟩)
    (by kernel_rfl)
#print axioms fnMerkleRead_card
end Go.Proofs.YtcpeldnikloebaaDoor
