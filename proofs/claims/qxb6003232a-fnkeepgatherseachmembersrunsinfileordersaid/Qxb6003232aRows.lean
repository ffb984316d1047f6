/-
  No cell of these rows narrows 'for every input' (looked for: loops, veiled, ifaces, maps, wideKeys, modest, calm, conditions, laid).
  DERIVED. THE GIVEN ROWS OF THIS SEAT. 5 by the template 'for every input the law returns true; each argument reads behind the call as it read before'; 0 by the template 'total and deterministic' (their statements: Qxb6003232aTotals.lean).
  GIVEN WITH THE SEED: the statements are not yours to turn. If you find one false, say at which input.
  Laid BY PROGRAM, IN A SANDBOX (cutbox-rows.mjs): the forced cells as the released guide's own fill.sh prints them over the translation 8bbfe61ebc7cb004… (all of the seat's roots in one cut). By AI agents, Wed Nov 11 2026. No macro, syntax, notation, axiom, sorry.
-/
import Derived.Test.Qxb6003232aChecked
import GoSem.Claim
import GoSem.ClaimJoined
import GoSem.ClaimMapViews
import Derived.JoinedTies
import Derived.KernelRfl
namespace Go.Proofs.Qxb6003232a
/- THE CELL 'sum', in the pinned program and in every row, IS THE sha256 OF THE DUMP (.gsa) THAT Qxb6003232aProg.lean LOADS. Nothing in Lean hashes anything: it is a label: what it is worth is what the hold of that sum in a sandbox is worth. -/
noncomputable def Try.pinned : Pinned := { name := "qxb6003232a", sum := "8bbfe61ebc7cb0049f99f6677770ab735dbd849389a61c78d64609b3af2f72e3", checked := Try.checked }
namespace Rows
def none {H : Type} : Left H := { results := [], args := [] }

/-- 'zzlaws_pkg_records_b1.FnBeforeKeepsExactlyTheEarlierRowsInOrder': WHATEVER THE INPUT: true; the input reads as it did. -/
def fnBeforeKeepsExactlyTheEarlierRowsInOrderSpec : ChangeSpec := { name := "fnBeforeKeepsExactlyTheEarlierRowsInOrder", fn := fun _ => fun
  | [d1, d2] => { results := [.lit (.bool true)], args := [d1, d2] }
  | _ => none }
def fnBeforeKeepsExactlyTheEarlierRowsInOrderRow : OpenClaim := { program := "qxb6003232a", sum := "8bbfe61ebc7cb0049f99f6677770ab735dbd849389a61c78d64609b3af2f72e3", func := "example.com/vestwright/vestwright/zzlaws_pkg_records_b1.FnBeforeKeepsExactlyTheEarlierRowsInOrder", spec := "fnBeforeKeepsExactlyTheEarlierRowsInOrder", apart := false }
def FnBeforeKeepsExactlyTheEarlierRowsInOrderSaid : Prop := fnBeforeKeepsExactlyTheEarlierRowsInOrderRow.holds Try.pinned (OpenSpec.ofChange fnBeforeKeepsExactlyTheEarlierRowsInOrderSpec)

/-- ITS FALSE NEIGHBOUR: 'it returns false'. Refute it at one input. -/
def fnBeforeKeepsExactlyTheEarlierRowsInOrderWrong : ChangeSpec := { name := "fnBeforeKeepsExactlyTheEarlierRowsInOrder", fn := fun _ => fun
  | [d1, d2] => { results := [.lit (.bool false)], args := [d1, d2] }
  | _ => none }
def FnBeforeKeepsExactlyTheEarlierRowsInOrderWrongFalsely : Prop := fnBeforeKeepsExactlyTheEarlierRowsInOrderRow.holds Try.pinned (OpenSpec.ofChange fnBeforeKeepsExactlyTheEarlierRowsInOrderWrong)

/-- 'zzlaws_pkg_records_b1.FnBeforeTwiceIsBeforeTheEarlierMonth': WHATEVER THE INPUT: true; the input reads as it did. -/
def fnBeforeTwiceIsBeforeTheEarlierMonthSpec : ChangeSpec := { name := "fnBeforeTwiceIsBeforeTheEarlierMonth", fn := fun _ => fun
  | [d1, d2, d3] => { results := [.lit (.bool true)], args := [d1, d2, d3] }
  | _ => none }
def fnBeforeTwiceIsBeforeTheEarlierMonthRow : OpenClaim := { program := "qxb6003232a", sum := "8bbfe61ebc7cb0049f99f6677770ab735dbd849389a61c78d64609b3af2f72e3", func := "example.com/vestwright/vestwright/zzlaws_pkg_records_b1.FnBeforeTwiceIsBeforeTheEarlierMonth", spec := "fnBeforeTwiceIsBeforeTheEarlierMonth", apart := false }
def FnBeforeTwiceIsBeforeTheEarlierMonthSaid : Prop := fnBeforeTwiceIsBeforeTheEarlierMonthRow.holds Try.pinned (OpenSpec.ofChange fnBeforeTwiceIsBeforeTheEarlierMonthSpec)

/-- ITS FALSE NEIGHBOUR: 'it returns false'. Refute it at one input. -/
def fnBeforeTwiceIsBeforeTheEarlierMonthWrong : ChangeSpec := { name := "fnBeforeTwiceIsBeforeTheEarlierMonth", fn := fun _ => fun
  | [d1, d2, d3] => { results := [.lit (.bool false)], args := [d1, d2, d3] }
  | _ => none }
def FnBeforeTwiceIsBeforeTheEarlierMonthWrongFalsely : Prop := fnBeforeTwiceIsBeforeTheEarlierMonthRow.holds Try.pinned (OpenSpec.ofChange fnBeforeTwiceIsBeforeTheEarlierMonthWrong)

/-- 'zzlaws_pkg_records_b1.FnKeepGathersEachMembersRunsInFileOrder': WHATEVER THE INPUT: true; the input reads as it did. -/
def fnKeepGathersEachMembersRunsInFileOrderSpec : ChangeSpec := { name := "fnKeepGathersEachMembersRunsInFileOrder", fn := fun _ => fun
  | [d1, d2, d3, d4, d5, d6] => { results := [.lit (.bool true)], args := [d1, d2, d3, d4, d5, d6] }
  | _ => none }
def fnKeepGathersEachMembersRunsInFileOrderRow : OpenClaim := { program := "qxb6003232a", sum := "8bbfe61ebc7cb0049f99f6677770ab735dbd849389a61c78d64609b3af2f72e3", func := "example.com/vestwright/vestwright/zzlaws_pkg_records_b1.FnKeepGathersEachMembersRunsInFileOrder", spec := "fnKeepGathersEachMembersRunsInFileOrder", apart := false }
def FnKeepGathersEachMembersRunsInFileOrderSaid : Prop := fnKeepGathersEachMembersRunsInFileOrderRow.holds Try.pinned (OpenSpec.ofChange fnKeepGathersEachMembersRunsInFileOrderSpec)

/-- ITS FALSE NEIGHBOUR: 'it returns false'. Refute it at one input. -/
def fnKeepGathersEachMembersRunsInFileOrderWrong : ChangeSpec := { name := "fnKeepGathersEachMembersRunsInFileOrder", fn := fun _ => fun
  | [d1, d2, d3, d4, d5, d6] => { results := [.lit (.bool false)], args := [d1, d2, d3, d4, d5, d6] }
  | _ => none }
def FnKeepGathersEachMembersRunsInFileOrderWrongFalsely : Prop := fnKeepGathersEachMembersRunsInFileOrderRow.holds Try.pinned (OpenSpec.ofChange fnKeepGathersEachMembersRunsInFileOrderWrong)

/-- 'zzlaws_pkg_records_b1.FnRecordsEndIsLastLineBreakAfterEvenQuotes': WHATEVER THE INPUT: true; the input reads as it did. -/
def fnRecordsEndIsLastLineBreakAfterEvenQuotesSpec : ChangeSpec := { name := "fnRecordsEndIsLastLineBreakAfterEvenQuotes", fn := fun _ => fun
  | [d] => { results := [.lit (.bool true)], args := [d] }
  | _ => none }
def fnRecordsEndIsLastLineBreakAfterEvenQuotesRow : OpenClaim := { program := "qxb6003232a", sum := "8bbfe61ebc7cb0049f99f6677770ab735dbd849389a61c78d64609b3af2f72e3", func := "example.com/vestwright/vestwright/zzlaws_pkg_records_b1.FnRecordsEndIsLastLineBreakAfterEvenQuotes", spec := "fnRecordsEndIsLastLineBreakAfterEvenQuotes", inPlace := ["internal/bytealg.Count", "internal/bytealg.IndexByte", "internal/bytealg.Index"], named := ["internal/bytealg.MaxLen"], apart := false }
def FnRecordsEndIsLastLineBreakAfterEvenQuotesSaid : Prop := fnRecordsEndIsLastLineBreakAfterEvenQuotesRow.holds Try.pinned (OpenSpec.ofChange fnRecordsEndIsLastLineBreakAfterEvenQuotesSpec)

/-- ITS FALSE NEIGHBOUR: 'it returns false'. Refute it at one input. -/
def fnRecordsEndIsLastLineBreakAfterEvenQuotesWrong : ChangeSpec := { name := "fnRecordsEndIsLastLineBreakAfterEvenQuotes", fn := fun _ => fun
  | [d] => { results := [.lit (.bool false)], args := [d] }
  | _ => none }
def FnRecordsEndIsLastLineBreakAfterEvenQuotesWrongFalsely : Prop := fnRecordsEndIsLastLineBreakAfterEvenQuotesRow.holds Try.pinned (OpenSpec.ofChange fnRecordsEndIsLastLineBreakAfterEvenQuotesWrong)

/-- 'zzlaws_pkg_records_b1.FnRecordsEndCutIsStableAndOnlyGrows': WHATEVER THE INPUT: true; the input reads as it did. -/
def fnRecordsEndCutIsStableAndOnlyGrowsSpec : ChangeSpec := { name := "fnRecordsEndCutIsStableAndOnlyGrows", fn := fun _ => fun
  | [d1, d2] => { results := [.lit (.bool true)], args := [d1, d2] }
  | _ => none }
def fnRecordsEndCutIsStableAndOnlyGrowsRow : OpenClaim := { program := "qxb6003232a", sum := "8bbfe61ebc7cb0049f99f6677770ab735dbd849389a61c78d64609b3af2f72e3", func := "example.com/vestwright/vestwright/zzlaws_pkg_records_b1.FnRecordsEndCutIsStableAndOnlyGrows", spec := "fnRecordsEndCutIsStableAndOnlyGrows", inPlace := ["internal/bytealg.Count", "internal/bytealg.IndexByte", "internal/bytealg.Index"], named := ["internal/bytealg.MaxLen"], apart := false }
def FnRecordsEndCutIsStableAndOnlyGrowsSaid : Prop := fnRecordsEndCutIsStableAndOnlyGrowsRow.holds Try.pinned (OpenSpec.ofChange fnRecordsEndCutIsStableAndOnlyGrowsSpec)

/-- ITS FALSE NEIGHBOUR: 'it returns false'. Refute it at one input. -/
def fnRecordsEndCutIsStableAndOnlyGrowsWrong : ChangeSpec := { name := "fnRecordsEndCutIsStableAndOnlyGrows", fn := fun _ => fun
  | [d1, d2] => { results := [.lit (.bool false)], args := [d1, d2] }
  | _ => none }
def FnRecordsEndCutIsStableAndOnlyGrowsWrongFalsely : Prop := fnRecordsEndCutIsStableAndOnlyGrowsRow.holds Try.pinned (OpenSpec.ofChange fnRecordsEndCutIsStableAndOnlyGrowsWrong)

end Rows
end Go.Proofs.Qxb6003232a
