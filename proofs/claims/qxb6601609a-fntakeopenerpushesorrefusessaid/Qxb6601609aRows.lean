/-
  No cell of these rows narrows 'for every input' (looked for: loops, veiled, ifaces, maps, wideKeys, modest, calm, conditions, laid).
  DERIVED. THE GIVEN ROWS OF THIS SEAT. 6 by the template 'for every input the law returns true; each argument reads behind the call as it read before'; 0 by the template 'total and deterministic' (their statements: Qxb6601609aTotals.lean).
  GIVEN WITH THE SEED: the statements are not yours to turn. If you find one false, say at which input.
  Laid BY PROGRAM, IN A SANDBOX (cutbox-rows.mjs): the forced cells as the released guide's own fill.sh prints them over the translation 69dc7b7112cbbfdc… (all of the seat's roots in one cut). By AI agents, Wed Nov 11 2026. No macro, syntax, notation, axiom, sorry.
-/
import Derived.Test.Qxb6601609aChecked
import GoSem.Claim
import GoSem.ClaimJoined
import GoSem.ClaimMapViews
import Derived.JoinedTies
import Derived.KernelRfl
namespace Go.Proofs.Qxb6601609a
/- THE CELL 'sum', in the pinned program and in every row, IS THE sha256 OF THE DUMP (.gsa) THAT Qxb6601609aProg.lean LOADS. Nothing in Lean hashes anything: it is a label: what it is worth is what the hold of that sum in a sandbox is worth. -/
noncomputable def Try.pinned : Pinned := { name := "qxb6601609a", sum := "69dc7b7112cbbfdc01039fd135391ff9e5d19b77caeb3eed2e19507d75daa117", checked := Try.checked }
namespace Rows
def none {H : Type} : Left H := { results := [], args := [] }

/-- 'zzlaws_pkg_limits_b1.FnCloserOfClosersOpenNothing': WHATEVER THE INPUT: true; the input reads as it did. -/
def fnCloserOfClosersOpenNothingSpec : ChangeSpec := { name := "fnCloserOfClosersOpenNothing", fn := fun _ => fun
  | [d1, d2] => { results := [.lit (.bool true)], args := [d1, d2] }
  | _ => none }
def fnCloserOfClosersOpenNothingRow : OpenClaim := { program := "qxb6601609a", sum := "69dc7b7112cbbfdc01039fd135391ff9e5d19b77caeb3eed2e19507d75daa117", func := "example.com/wireward/wireward/zzlaws_pkg_limits_b1.FnCloserOfClosersOpenNothing", spec := "fnCloserOfClosersOpenNothing", apart := false }
def FnCloserOfClosersOpenNothingSaid : Prop := fnCloserOfClosersOpenNothingRow.holds Try.pinned (OpenSpec.ofChange fnCloserOfClosersOpenNothingSpec)

/-- ITS FALSE NEIGHBOUR: 'it returns false'. Refute it at one input. -/
def fnCloserOfClosersOpenNothingWrong : ChangeSpec := { name := "fnCloserOfClosersOpenNothing", fn := fun _ => fun
  | [d1, d2] => { results := [.lit (.bool false)], args := [d1, d2] }
  | _ => none }
def FnCloserOfClosersOpenNothingWrongFalsely : Prop := fnCloserOfClosersOpenNothingRow.holds Try.pinned (OpenSpec.ofChange fnCloserOfClosersOpenNothingWrong)

/-- 'zzlaws_pkg_limits_b1.FnCommentEndMatchesScanner': WHATEVER THE INPUT: true; the input reads as it did. -/
def fnCommentEndMatchesScannerSpec : ChangeSpec := { name := "fnCommentEndMatchesScanner", fn := fun _ => fun
  | [d1, d2] => { results := [.lit (.bool true)], args := [d1, d2] }
  | _ => none }
def fnCommentEndMatchesScannerRow : OpenClaim := { program := "qxb6601609a", sum := "69dc7b7112cbbfdc01039fd135391ff9e5d19b77caeb3eed2e19507d75daa117", func := "example.com/wireward/wireward/zzlaws_pkg_limits_b1.FnCommentEndMatchesScanner", spec := "fnCommentEndMatchesScanner", inPlace := ["internal/bytealg.IndexByte", "internal/bytealg.Index"], named := ["internal/bytealg.MaxLen"], apart := false }
def FnCommentEndMatchesScannerSaid : Prop := fnCommentEndMatchesScannerRow.holds Try.pinned (OpenSpec.ofChange fnCommentEndMatchesScannerSpec)

/-- ITS FALSE NEIGHBOUR: 'it returns false'. Refute it at one input. -/
def fnCommentEndMatchesScannerWrong : ChangeSpec := { name := "fnCommentEndMatchesScanner", fn := fun _ => fun
  | [d1, d2] => { results := [.lit (.bool false)], args := [d1, d2] }
  | _ => none }
def FnCommentEndMatchesScannerWrongFalsely : Prop := fnCommentEndMatchesScannerRow.holds Try.pinned (OpenSpec.ofChange fnCommentEndMatchesScannerWrong)

/-- 'zzlaws_pkg_limits_b1.FnCommentEndStableUnderCut': WHATEVER THE INPUT: true; the input reads as it did. -/
def fnCommentEndStableUnderCutSpec : ChangeSpec := { name := "fnCommentEndStableUnderCut", fn := fun _ => fun
  | [d1, d2, d3] => { results := [.lit (.bool true)], args := [d1, d2, d3] }
  | _ => none }
def fnCommentEndStableUnderCutRow : OpenClaim := { program := "qxb6601609a", sum := "69dc7b7112cbbfdc01039fd135391ff9e5d19b77caeb3eed2e19507d75daa117", func := "example.com/wireward/wireward/zzlaws_pkg_limits_b1.FnCommentEndStableUnderCut", spec := "fnCommentEndStableUnderCut", inPlace := ["internal/bytealg.IndexByte", "internal/bytealg.Index"], named := ["internal/bytealg.MaxLen"], apart := false }
def FnCommentEndStableUnderCutSaid : Prop := fnCommentEndStableUnderCutRow.holds Try.pinned (OpenSpec.ofChange fnCommentEndStableUnderCutSpec)

/-- ITS FALSE NEIGHBOUR: 'it returns false'. Refute it at one input. -/
def fnCommentEndStableUnderCutWrong : ChangeSpec := { name := "fnCommentEndStableUnderCut", fn := fun _ => fun
  | [d1, d2, d3] => { results := [.lit (.bool false)], args := [d1, d2, d3] }
  | _ => none }
def FnCommentEndStableUnderCutWrongFalsely : Prop := fnCommentEndStableUnderCutRow.holds Try.pinned (OpenSpec.ofChange fnCommentEndStableUnderCutWrong)

/-- 'zzlaws_pkg_limits_b1.FnTakeScriptTracksBracketsAndLimits': WHATEVER THE INPUT: true; the input reads as it did. -/
def fnTakeScriptTracksBracketsAndLimitsSpec : ChangeSpec := { name := "fnTakeScriptTracksBracketsAndLimits", fn := fun _ => fun
  | [d1, d2] => { results := [.lit (.bool true)], args := [d1, d2] }
  | _ => none }
def fnTakeScriptTracksBracketsAndLimitsRow : OpenClaim := { program := "qxb6601609a", sum := "69dc7b7112cbbfdc01039fd135391ff9e5d19b77caeb3eed2e19507d75daa117", func := "example.com/wireward/wireward/zzlaws_pkg_limits_b1.FnTakeScriptTracksBracketsAndLimits", spec := "fnTakeScriptTracksBracketsAndLimits", apart := false }
def FnTakeScriptTracksBracketsAndLimitsSaid : Prop := fnTakeScriptTracksBracketsAndLimitsRow.holds Try.pinned (OpenSpec.ofChange fnTakeScriptTracksBracketsAndLimitsSpec)

/-- ITS FALSE NEIGHBOUR: 'it returns false'. Refute it at one input. -/
def fnTakeScriptTracksBracketsAndLimitsWrong : ChangeSpec := { name := "fnTakeScriptTracksBracketsAndLimits", fn := fun _ => fun
  | [d1, d2] => { results := [.lit (.bool false)], args := [d1, d2] }
  | _ => none }
def FnTakeScriptTracksBracketsAndLimitsWrongFalsely : Prop := fnTakeScriptTracksBracketsAndLimitsRow.holds Try.pinned (OpenSpec.ofChange fnTakeScriptTracksBracketsAndLimitsWrong)

/-- 'zzlaws_pkg_limits_b1.FnTakeNonOpenerActsAsMatcher': WHATEVER THE INPUT: true; the input reads as it did. -/
def fnTakeNonOpenerActsAsMatcherSpec : ChangeSpec := { name := "fnTakeNonOpenerActsAsMatcher", fn := fun _ => fun
  | [d1, d2, d3, d4, d5, d6, d7, d8, d9, d10] => { results := [.lit (.bool true)], args := [d1, d2, d3, d4, d5, d6, d7, d8, d9, d10] }
  | _ => none }
def fnTakeNonOpenerActsAsMatcherRow : OpenClaim := { program := "qxb6601609a", sum := "69dc7b7112cbbfdc01039fd135391ff9e5d19b77caeb3eed2e19507d75daa117", func := "example.com/wireward/wireward/zzlaws_pkg_limits_b1.FnTakeNonOpenerActsAsMatcher", spec := "fnTakeNonOpenerActsAsMatcher", apart := false }
def FnTakeNonOpenerActsAsMatcherSaid : Prop := fnTakeNonOpenerActsAsMatcherRow.holds Try.pinned (OpenSpec.ofChange fnTakeNonOpenerActsAsMatcherSpec)

/-- ITS FALSE NEIGHBOUR: 'it returns false'. Refute it at one input. -/
def fnTakeNonOpenerActsAsMatcherWrong : ChangeSpec := { name := "fnTakeNonOpenerActsAsMatcher", fn := fun _ => fun
  | [d1, d2, d3, d4, d5, d6, d7, d8, d9, d10] => { results := [.lit (.bool false)], args := [d1, d2, d3, d4, d5, d6, d7, d8, d9, d10] }
  | _ => none }
def FnTakeNonOpenerActsAsMatcherWrongFalsely : Prop := fnTakeNonOpenerActsAsMatcherRow.holds Try.pinned (OpenSpec.ofChange fnTakeNonOpenerActsAsMatcherWrong)

/-- 'zzlaws_pkg_limits_b1.FnTakeOpenerPushesOrRefuses': WHATEVER THE INPUT: true; the input reads as it did. -/
def fnTakeOpenerPushesOrRefusesSpec : ChangeSpec := { name := "fnTakeOpenerPushesOrRefuses", fn := fun _ => fun
  | [d1, d2, d3, d4, d5, d6, d7, d8, d9, d10] => { results := [.lit (.bool true)], args := [d1, d2, d3, d4, d5, d6, d7, d8, d9, d10] }
  | _ => none }
def fnTakeOpenerPushesOrRefusesRow : OpenClaim := { program := "qxb6601609a", sum := "69dc7b7112cbbfdc01039fd135391ff9e5d19b77caeb3eed2e19507d75daa117", func := "example.com/wireward/wireward/zzlaws_pkg_limits_b1.FnTakeOpenerPushesOrRefuses", spec := "fnTakeOpenerPushesOrRefuses", apart := false }
def FnTakeOpenerPushesOrRefusesSaid : Prop := fnTakeOpenerPushesOrRefusesRow.holds Try.pinned (OpenSpec.ofChange fnTakeOpenerPushesOrRefusesSpec)

/-- ITS FALSE NEIGHBOUR: 'it returns false'. Refute it at one input. -/
def fnTakeOpenerPushesOrRefusesWrong : ChangeSpec := { name := "fnTakeOpenerPushesOrRefuses", fn := fun _ => fun
  | [d1, d2, d3, d4, d5, d6, d7, d8, d9, d10] => { results := [.lit (.bool false)], args := [d1, d2, d3, d4, d5, d6, d7, d8, d9, d10] }
  | _ => none }
def FnTakeOpenerPushesOrRefusesWrongFalsely : Prop := fnTakeOpenerPushesOrRefusesRow.holds Try.pinned (OpenSpec.ofChange fnTakeOpenerPushesOrRefusesWrong)

end Rows
end Go.Proofs.Qxb6601609a
