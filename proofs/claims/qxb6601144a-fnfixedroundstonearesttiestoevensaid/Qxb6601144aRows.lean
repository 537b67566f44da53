/-
  No cell of these rows narrows 'for every input' (looked for: loops, veiled, ifaces, maps, wideKeys, modest, calm, conditions, laid).
  DERIVED. THE GIVEN ROWS OF THIS SEAT. 4 by the template 'for every input the law returns true; each argument reads behind the call as it read before'; 0 by the template 'total and deterministic' (their statements: Qxb6601144aTotals.lean).
  GIVEN WITH THE SEED: the statements are not yours to turn. If you find one false, say at which input.
  Laid BY PROGRAM, IN A SANDBOX (cutbox-rows.mjs): the forced cells as the released guide's own fill.sh prints them over the translation f540a5968cd42624… (all of the seat's roots in one cut). By AI agents, Wed Nov 11 2026. No macro, syntax, notation, axiom, sorry.
-/
import Derived.Test.Qxb6601144aChecked
import GoSem.Claim
import GoSem.ClaimJoined
import GoSem.ClaimMapViews
import Derived.JoinedTies
import Derived.KernelRfl
namespace Go.Proofs.Qxb6601144a
/- THE CELL 'sum', in the pinned program and in every row, IS THE sha256 OF THE DUMP (.gsa) THAT Qxb6601144aProg.lean LOADS. Nothing in Lean hashes anything: it is a label: what it is worth is what the hold of that sum in a sandbox is worth. -/
noncomputable def Try.pinned : Pinned := { name := "qxb6601144a", sum := "f540a5968cd4262424005704bc764743ff3a10d2b27ef9b111eb77399705bddf", checked := Try.checked }
namespace Rows
def none {H : Type} : Left H := { results := [], args := [] }

/-- 'zzlaws_record_b1.FnScanNumberMatchesSplitGrammar': WHATEVER THE INPUT: true; the input reads as it did. -/
def fnScanNumberMatchesSplitGrammarSpec : ChangeSpec := { name := "fnScanNumberMatchesSplitGrammar", fn := fun _ => fun
  | [d] => { results := [.lit (.bool true)], args := [d] }
  | _ => none }
def fnScanNumberMatchesSplitGrammarRow : OpenClaim := { program := "qxb6601144a", sum := "f540a5968cd4262424005704bc764743ff3a10d2b27ef9b111eb77399705bddf", func := "example.com/verdicta/verdicta/zzlaws_record_b1.FnScanNumberMatchesSplitGrammar", spec := "fnScanNumberMatchesSplitGrammar", unfollowed := true, recurses := true, apart := false }
def FnScanNumberMatchesSplitGrammarSaid : Prop := fnScanNumberMatchesSplitGrammarRow.holds Try.pinned (OpenSpec.ofChange fnScanNumberMatchesSplitGrammarSpec)

/-- ITS FALSE NEIGHBOUR: 'it returns false'. Refute it at one input. -/
def fnScanNumberMatchesSplitGrammarWrong : ChangeSpec := { name := "fnScanNumberMatchesSplitGrammar", fn := fun _ => fun
  | [d] => { results := [.lit (.bool false)], args := [d] }
  | _ => none }
def FnScanNumberMatchesSplitGrammarWrongFalsely : Prop := fnScanNumberMatchesSplitGrammarRow.holds Try.pinned (OpenSpec.ofChange fnScanNumberMatchesSplitGrammarWrong)

/-- 'zzlaws_record_b1.FnScanNumberSignOnlySetsNeg': WHATEVER THE INPUT: true; the input reads as it did. -/
def fnScanNumberSignOnlySetsNegSpec : ChangeSpec := { name := "fnScanNumberSignOnlySetsNeg", fn := fun _ => fun
  | [d] => { results := [.lit (.bool true)], args := [d] }
  | _ => none }
def fnScanNumberSignOnlySetsNegRow : OpenClaim := { program := "qxb6601144a", sum := "f540a5968cd4262424005704bc764743ff3a10d2b27ef9b111eb77399705bddf", func := "example.com/verdicta/verdicta/zzlaws_record_b1.FnScanNumberSignOnlySetsNeg", spec := "fnScanNumberSignOnlySetsNeg", unfollowed := true, recurses := true, apart := false }
def FnScanNumberSignOnlySetsNegSaid : Prop := fnScanNumberSignOnlySetsNegRow.holds Try.pinned (OpenSpec.ofChange fnScanNumberSignOnlySetsNegSpec)

/-- ITS FALSE NEIGHBOUR: 'it returns false'. Refute it at one input. -/
def fnScanNumberSignOnlySetsNegWrong : ChangeSpec := { name := "fnScanNumberSignOnlySetsNeg", fn := fun _ => fun
  | [d] => { results := [.lit (.bool false)], args := [d] }
  | _ => none }
def FnScanNumberSignOnlySetsNegWrongFalsely : Prop := fnScanNumberSignOnlySetsNegRow.holds Try.pinned (OpenSpec.ofChange fnScanNumberSignOnlySetsNegWrong)

/-- 'zzlaws_record_b1.FnFixedRoundsToNearestTiesToEven': WHATEVER THE INPUT: true; the input reads as it did. -/
def fnFixedRoundsToNearestTiesToEvenSpec : ChangeSpec := { name := "fnFixedRoundsToNearestTiesToEven", fn := fun _ => fun
  | [d1, d2, d3, d4] => { results := [.lit (.bool true)], args := [d1, d2, d3, d4] }
  | _ => none }
def fnFixedRoundsToNearestTiesToEvenRow : OpenClaim := { program := "qxb6601144a", sum := "f540a5968cd4262424005704bc764743ff3a10d2b27ef9b111eb77399705bddf", func := "example.com/verdicta/verdicta/zzlaws_record_b1.FnFixedRoundsToNearestTiesToEven", spec := "fnFixedRoundsToNearestTiesToEven", inPlace := ["internal/abi.NoEscape", "internal/bytealg.MakeNoZero"], apart := false }
def FnFixedRoundsToNearestTiesToEvenSaid : Prop := fnFixedRoundsToNearestTiesToEvenRow.holds Try.pinned (OpenSpec.ofChange fnFixedRoundsToNearestTiesToEvenSpec)

/-- ITS FALSE NEIGHBOUR: 'it returns false'. Refute it at one input. -/
def fnFixedRoundsToNearestTiesToEvenWrong : ChangeSpec := { name := "fnFixedRoundsToNearestTiesToEven", fn := fun _ => fun
  | [d1, d2, d3, d4] => { results := [.lit (.bool false)], args := [d1, d2, d3, d4] }
  | _ => none }
def FnFixedRoundsToNearestTiesToEvenWrongFalsely : Prop := fnFixedRoundsToNearestTiesToEvenRow.holds Try.pinned (OpenSpec.ofChange fnFixedRoundsToNearestTiesToEvenWrong)

/-- 'zzlaws_record_b1.FnFixedExactReadsBackThroughScanNumber': WHATEVER THE INPUT: true; the input reads as it did. -/
def fnFixedExactReadsBackThroughScanNumberSpec : ChangeSpec := { name := "fnFixedExactReadsBackThroughScanNumber", fn := fun _ => fun
  | [d1, d2, d3, d4] => { results := [.lit (.bool true)], args := [d1, d2, d3, d4] }
  | _ => none }
def fnFixedExactReadsBackThroughScanNumberRow : OpenClaim := { program := "qxb6601144a", sum := "f540a5968cd4262424005704bc764743ff3a10d2b27ef9b111eb77399705bddf", func := "example.com/verdicta/verdicta/zzlaws_record_b1.FnFixedExactReadsBackThroughScanNumber", spec := "fnFixedExactReadsBackThroughScanNumber", inPlace := ["internal/abi.NoEscape", "internal/bytealg.MakeNoZero"], unfollowed := true, recurses := true, apart := false }
def FnFixedExactReadsBackThroughScanNumberSaid : Prop := fnFixedExactReadsBackThroughScanNumberRow.holds Try.pinned (OpenSpec.ofChange fnFixedExactReadsBackThroughScanNumberSpec)

/-- ITS FALSE NEIGHBOUR: 'it returns false'. Refute it at one input. -/
def fnFixedExactReadsBackThroughScanNumberWrong : ChangeSpec := { name := "fnFixedExactReadsBackThroughScanNumber", fn := fun _ => fun
  | [d1, d2, d3, d4] => { results := [.lit (.bool false)], args := [d1, d2, d3, d4] }
  | _ => none }
def FnFixedExactReadsBackThroughScanNumberWrongFalsely : Prop := fnFixedExactReadsBackThroughScanNumberRow.holds Try.pinned (OpenSpec.ofChange fnFixedExactReadsBackThroughScanNumberWrong)

end Rows
end Go.Proofs.Qxb6601144a
