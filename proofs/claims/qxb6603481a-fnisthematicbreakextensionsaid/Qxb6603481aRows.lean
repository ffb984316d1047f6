/-
  No cell of these rows narrows 'for every input' (looked for: loops, veiled, ifaces, maps, wideKeys, modest, calm, conditions, laid).
  DERIVED. THE GIVEN ROWS OF THIS SEAT. 2 by the template 'for every input the law returns true; each argument reads behind the call as it read before'; 0 by the template 'total and deterministic' (their statements: Qxb6603481aTotals.lean).
  GIVEN WITH THE SEED: the statements are not yours to turn. If you find one false, say at which input.
  Laid BY PROGRAM, IN A SANDBOX (cutbox-rows.mjs): the forced cells as the released guide's own fill.sh prints them over the translation 389d682249f65efb… (all of the seat's roots in one cut). By AI agents, Wed Nov 11 2026. No macro, syntax, notation, axiom, sorry.
-/
import Derived.Test.Qxb6603481aChecked
import GoSem.Claim
import GoSem.ClaimJoined
import GoSem.ClaimMapViews
import Derived.JoinedTies
import Derived.KernelRfl
namespace Go.Proofs.Qxb6603481a
/- THE CELL 'sum', in the pinned program and in every row, IS THE sha256 OF THE DUMP (.gsa) THAT Qxb6603481aProg.lean LOADS. Nothing in Lean hashes anything: it is a label: what it is worth is what the hold of that sum in a sandbox is worth. -/
noncomputable def Try.pinned : Pinned := { name := "qxb6603481a", sum := "389d682249f65efb9c2a97c6434814725dd37199e157151317ac2ff434aa1e2d", checked := Try.checked }
namespace Rows
def none {H : Type} : Left H := { results := [], args := [] }

/-- 'zzlaws_internal_markdown_b1.FnIsThematicBreakExtension': WHATEVER THE INPUT: true; the input reads as it did. -/
def fnIsThematicBreakExtensionSpec : ChangeSpec := { name := "fnIsThematicBreakExtension", fn := fun _ => fun
  | [d] => { results := [.lit (.bool true)], args := [d] }
  | _ => none }
def fnIsThematicBreakExtensionRow : OpenClaim := { program := "qxb6603481a", sum := "389d682249f65efb9c2a97c6434814725dd37199e157151317ac2ff434aa1e2d", func := "example.com/pan-library/pan-library/zzlaws_internal_markdown_b1.FnIsThematicBreakExtension", spec := "fnIsThematicBreakExtension", apart := false }
def FnIsThematicBreakExtensionSaid : Prop := fnIsThematicBreakExtensionRow.holds Try.pinned (OpenSpec.ofChange fnIsThematicBreakExtensionSpec)

/-- ITS FALSE NEIGHBOUR: 'it returns false'. Refute it at one input. -/
def fnIsThematicBreakExtensionWrong : ChangeSpec := { name := "fnIsThematicBreakExtension", fn := fun _ => fun
  | [d] => { results := [.lit (.bool false)], args := [d] }
  | _ => none }
def FnIsThematicBreakExtensionWrongFalsely : Prop := fnIsThematicBreakExtensionRow.holds Try.pinned (OpenSpec.ofChange fnIsThematicBreakExtensionWrong)

/-- 'zzlaws_internal_markdown_b1.FnNestedDepthsAddUp': WHATEVER THE INPUT: true; the input reads as it did. -/
def fnNestedDepthsAddUpSpec : ChangeSpec := { name := "fnNestedDepthsAddUp", fn := fun _ => fun
  | [d1, d2] => { results := [.lit (.bool true)], args := [d1, d2] }
  | _ => none }
def fnNestedDepthsAddUpRow : OpenClaim := { program := "qxb6603481a", sum := "389d682249f65efb9c2a97c6434814725dd37199e157151317ac2ff434aa1e2d", func := "example.com/pan-library/pan-library/zzlaws_internal_markdown_b1.FnNestedDepthsAddUp", spec := "fnNestedDepthsAddUp", unfollowed := true, recurses := true, apart := false }
def FnNestedDepthsAddUpSaid : Prop := fnNestedDepthsAddUpRow.holds Try.pinned (OpenSpec.ofChange fnNestedDepthsAddUpSpec)

/-- ITS FALSE NEIGHBOUR: 'it returns false'. Refute it at one input. -/
def fnNestedDepthsAddUpWrong : ChangeSpec := { name := "fnNestedDepthsAddUp", fn := fun _ => fun
  | [d1, d2] => { results := [.lit (.bool false)], args := [d1, d2] }
  | _ => none }
def FnNestedDepthsAddUpWrongFalsely : Prop := fnNestedDepthsAddUpRow.holds Try.pinned (OpenSpec.ofChange fnNestedDepthsAddUpWrong)

end Rows
end Go.Proofs.Qxb6603481a
