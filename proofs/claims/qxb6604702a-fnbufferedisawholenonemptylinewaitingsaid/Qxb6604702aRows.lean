/-
  No cell of these rows narrows 'for every input' (looked for: loops, veiled, ifaces, maps, wideKeys, modest, calm, conditions, laid).
  DERIVED. THE GIVEN ROWS OF THIS SEAT. 4 by the template 'for every input the law returns true; each argument reads behind the call as it read before'; 0 by the template 'total and deterministic' (their statements: Qxb6604702aTotals.lean).
  GIVEN WITH THE SEED: the statements are not yours to turn. If you find one false, say at which input.
  Laid BY PROGRAM, IN A SANDBOX (cutbox-rows.mjs): the forced cells as the released guide's own fill.sh prints them over the translation a7ac66518e8d8f81… (all of the seat's roots in one cut). By AI agents, Wed Nov 11 2026. No macro, syntax, notation, axiom, sorry.
-/
import Derived.Test.Qxb6604702aChecked
import GoSem.Claim
import GoSem.ClaimJoined
import GoSem.ClaimMapViews
import Derived.JoinedTies
import Derived.KernelRfl
namespace Go.Proofs.Qxb6604702a
/- THE CELL 'sum', in the pinned program and in every row, IS THE sha256 OF THE DUMP (.gsa) THAT Qxb6604702aProg.lean LOADS. Nothing in Lean hashes anything: it is a label: what it is worth is what the hold of that sum in a sandbox is worth. -/
noncomputable def Try.pinned : Pinned := { name := "qxb6604702a", sum := "a7ac66518e8d8f81e9df8c260a9608fb4f9644b124ee879be40d4536f60db6d4", checked := Try.checked }
namespace Rows
def none {H : Type} : Left H := { results := [], args := [] }

/-- 'zzlaws_bank_b1.FnDrawHandsOutEveryDealtPlace': WHATEVER THE INPUT: true; the input reads as it did. -/
def fnDrawHandsOutEveryDealtPlaceSpec : ChangeSpec := { name := "fnDrawHandsOutEveryDealtPlace", fn := fun _ => fun
  | [d1, d2, d3, d4] => { results := [.lit (.bool true)], args := [d1, d2, d3, d4] }
  | _ => none }
def fnDrawHandsOutEveryDealtPlaceRow : OpenClaim := { program := "qxb6604702a", sum := "a7ac66518e8d8f81e9df8c260a9608fb4f9644b124ee879be40d4536f60db6d4", func := "example.com/volatile-weir/volatile-weir/zzlaws_bank_b1.FnDrawHandsOutEveryDealtPlace", spec := "fnDrawHandsOutEveryDealtPlace", inPlace := ["internal/chacha8rand.block"], unfollowed := true, recurses := true, named := ["encoding/binary.LittleEndian"], apart := false }
def FnDrawHandsOutEveryDealtPlaceSaid : Prop := fnDrawHandsOutEveryDealtPlaceRow.holds Try.pinned (OpenSpec.ofChange fnDrawHandsOutEveryDealtPlaceSpec)

/-- ITS FALSE NEIGHBOUR: 'it returns false'. Refute it at one input. -/
def fnDrawHandsOutEveryDealtPlaceWrong : ChangeSpec := { name := "fnDrawHandsOutEveryDealtPlace", fn := fun _ => fun
  | [d1, d2, d3, d4] => { results := [.lit (.bool false)], args := [d1, d2, d3, d4] }
  | _ => none }
def FnDrawHandsOutEveryDealtPlaceWrongFalsely : Prop := fnDrawHandsOutEveryDealtPlaceRow.holds Try.pinned (OpenSpec.ofChange fnDrawHandsOutEveryDealtPlaceWrong)

/-- 'zzlaws_bank_b1.FnDrawPicksTheSpanThatHoldsItsDraw': WHATEVER THE INPUT: true; the input reads as it did. -/
def fnDrawPicksTheSpanThatHoldsItsDrawSpec : ChangeSpec := { name := "fnDrawPicksTheSpanThatHoldsItsDraw", fn := fun _ => fun
  | [d1, d2, d3, d4] => { results := [.lit (.bool true)], args := [d1, d2, d3, d4] }
  | _ => none }
def fnDrawPicksTheSpanThatHoldsItsDrawRow : OpenClaim := { program := "qxb6604702a", sum := "a7ac66518e8d8f81e9df8c260a9608fb4f9644b124ee879be40d4536f60db6d4", func := "example.com/volatile-weir/volatile-weir/zzlaws_bank_b1.FnDrawPicksTheSpanThatHoldsItsDraw", spec := "fnDrawPicksTheSpanThatHoldsItsDraw", inPlace := ["internal/chacha8rand.block"], unfollowed := true, recurses := true, named := ["encoding/binary.LittleEndian"], apart := false }
def FnDrawPicksTheSpanThatHoldsItsDrawSaid : Prop := fnDrawPicksTheSpanThatHoldsItsDrawRow.holds Try.pinned (OpenSpec.ofChange fnDrawPicksTheSpanThatHoldsItsDrawSpec)

/-- ITS FALSE NEIGHBOUR: 'it returns false'. Refute it at one input. -/
def fnDrawPicksTheSpanThatHoldsItsDrawWrong : ChangeSpec := { name := "fnDrawPicksTheSpanThatHoldsItsDraw", fn := fun _ => fun
  | [d1, d2, d3, d4] => { results := [.lit (.bool false)], args := [d1, d2, d3, d4] }
  | _ => none }
def FnDrawPicksTheSpanThatHoldsItsDrawWrongFalsely : Prop := fnDrawPicksTheSpanThatHoldsItsDrawRow.holds Try.pinned (OpenSpec.ofChange fnDrawPicksTheSpanThatHoldsItsDrawWrong)

/-- 'zzlaws_bank_b1.FnBufferedIsAWholeNonEmptyLineWaiting': WHATEVER THE INPUT: true; the input reads as it did. -/
def fnBufferedIsAWholeNonEmptyLineWaitingSpec : ChangeSpec := { name := "fnBufferedIsAWholeNonEmptyLineWaiting", fn := fun _ => fun
  | [d1, d2, d3, d4] => { results := [.lit (.bool true)], args := [d1, d2, d3, d4] }
  | _ => none }
def fnBufferedIsAWholeNonEmptyLineWaitingRow : OpenClaim := { program := "qxb6604702a", sum := "a7ac66518e8d8f81e9df8c260a9608fb4f9644b124ee879be40d4536f60db6d4", func := "example.com/volatile-weir/volatile-weir/zzlaws_bank_b1.FnBufferedIsAWholeNonEmptyLineWaiting", spec := "fnBufferedIsAWholeNonEmptyLineWaiting", inPlace := ["internal/bytealg.IndexByteString"], apart := false }
def FnBufferedIsAWholeNonEmptyLineWaitingSaid : Prop := fnBufferedIsAWholeNonEmptyLineWaitingRow.holds Try.pinned (OpenSpec.ofChange fnBufferedIsAWholeNonEmptyLineWaitingSpec)

/-- ITS FALSE NEIGHBOUR: 'it returns false'. Refute it at one input. -/
def fnBufferedIsAWholeNonEmptyLineWaitingWrong : ChangeSpec := { name := "fnBufferedIsAWholeNonEmptyLineWaiting", fn := fun _ => fun
  | [d1, d2, d3, d4] => { results := [.lit (.bool false)], args := [d1, d2, d3, d4] }
  | _ => none }
def FnBufferedIsAWholeNonEmptyLineWaitingWrongFalsely : Prop := fnBufferedIsAWholeNonEmptyLineWaitingRow.holds Try.pinned (OpenSpec.ofChange fnBufferedIsAWholeNonEmptyLineWaitingWrong)

/-- 'zzlaws_bank_b1.FnBufferedOfJoinedLinesIsEitherPart': WHATEVER THE INPUT: true; the input reads as it did. -/
def fnBufferedOfJoinedLinesIsEitherPartSpec : ChangeSpec := { name := "fnBufferedOfJoinedLinesIsEitherPart", fn := fun _ => fun
  | [d1, d2] => { results := [.lit (.bool true)], args := [d1, d2] }
  | _ => none }
def fnBufferedOfJoinedLinesIsEitherPartRow : OpenClaim := { program := "qxb6604702a", sum := "a7ac66518e8d8f81e9df8c260a9608fb4f9644b124ee879be40d4536f60db6d4", func := "example.com/volatile-weir/volatile-weir/zzlaws_bank_b1.FnBufferedOfJoinedLinesIsEitherPart", spec := "fnBufferedOfJoinedLinesIsEitherPart", inPlace := ["internal/bytealg.IndexByteString"], apart := false }
def FnBufferedOfJoinedLinesIsEitherPartSaid : Prop := fnBufferedOfJoinedLinesIsEitherPartRow.holds Try.pinned (OpenSpec.ofChange fnBufferedOfJoinedLinesIsEitherPartSpec)

/-- ITS FALSE NEIGHBOUR: 'it returns false'. Refute it at one input. -/
def fnBufferedOfJoinedLinesIsEitherPartWrong : ChangeSpec := { name := "fnBufferedOfJoinedLinesIsEitherPart", fn := fun _ => fun
  | [d1, d2] => { results := [.lit (.bool false)], args := [d1, d2] }
  | _ => none }
def FnBufferedOfJoinedLinesIsEitherPartWrongFalsely : Prop := fnBufferedOfJoinedLinesIsEitherPartRow.holds Try.pinned (OpenSpec.ofChange fnBufferedOfJoinedLinesIsEitherPartWrong)

end Rows
end Go.Proofs.Qxb6604702a
