/-
  No cell of these rows narrows 'for every input' (looked for: loops, veiled, ifaces, maps, wideKeys, modest, calm, conditions, laid).
  DERIVED. THE GIVEN ROWS OF THIS SEAT. 7 by the template 'for every input the law returns true; each argument reads behind the call as it read before'; 0 by the template 'total and deterministic' (their statements: Qxb6602687aTotals.lean).
  GIVEN WITH THE SEED: the statements are not yours to turn. If you find one false, say at which input.
  Laid BY PROGRAM, IN A SANDBOX (cutbox-rows.mjs): the forced cells as the released guide's own fill.sh prints them over the translation 6a049db1996364a8… (all of the seat's roots in one cut). By AI agents, Wed Nov 11 2026. No macro, syntax, notation, axiom, sorry.
-/
import Derived.Test.Qxb6602687aChecked
import GoSem.Claim
import GoSem.ClaimJoined
import GoSem.ClaimMapViews
import Derived.JoinedTies
import Derived.KernelRfl
namespace Go.Proofs.Qxb6602687a
/- THE CELL 'sum', in the pinned program and in every row, IS THE sha256 OF THE DUMP (.gsa) THAT Qxb6602687aProg.lean LOADS. Nothing in Lean hashes anything: it is a label: what it is worth is what the hold of that sum in a sandbox is worth. -/
noncomputable def Try.pinned : Pinned := { name := "qxb6602687a", sum := "6a049db1996364a86e698395ad82aff410c60acbcc64fde99e290cdb4dc64f96", checked := Try.checked }
namespace Rows
def none {H : Type} : Left H := { results := [], args := [] }

/-- 'zzlaws_topology_b1.FnRingNeighbourIsAscendingCycleNeighbour': WHATEVER THE INPUT: true; the input reads as it did. -/
def fnRingNeighbourIsAscendingCycleNeighbourSpec : ChangeSpec := { name := "fnRingNeighbourIsAscendingCycleNeighbour", fn := fun _ => fun
  | [d1, d2, d3] => { results := [.lit (.bool true)], args := [d1, d2, d3] }
  | _ => none }
def fnRingNeighbourIsAscendingCycleNeighbourRow : OpenClaim := { program := "qxb6602687a", sum := "6a049db1996364a86e698395ad82aff410c60acbcc64fde99e290cdb4dc64f96", func := "example.com/rumorweave/rumorweave/zzlaws_topology_b1.FnRingNeighbourIsAscendingCycleNeighbour", spec := "fnRingNeighbourIsAscendingCycleNeighbour", apart := false }
def FnRingNeighbourIsAscendingCycleNeighbourSaid : Prop := fnRingNeighbourIsAscendingCycleNeighbourRow.holds Try.pinned (OpenSpec.ofChange fnRingNeighbourIsAscendingCycleNeighbourSpec)

/-- ITS FALSE NEIGHBOUR: 'it returns false'. Refute it at one input. -/
def fnRingNeighbourIsAscendingCycleNeighbourWrong : ChangeSpec := { name := "fnRingNeighbourIsAscendingCycleNeighbour", fn := fun _ => fun
  | [d1, d2, d3] => { results := [.lit (.bool false)], args := [d1, d2, d3] }
  | _ => none }
def FnRingNeighbourIsAscendingCycleNeighbourWrongFalsely : Prop := fnRingNeighbourIsAscendingCycleNeighbourRow.holds Try.pinned (OpenSpec.ofChange fnRingNeighbourIsAscendingCycleNeighbourWrong)

/-- 'zzlaws_topology_b1.FnRingNeighbourIsSimpleAndSymmetric': WHATEVER THE INPUT: true; the input reads as it did. -/
def fnRingNeighbourIsSimpleAndSymmetricSpec : ChangeSpec := { name := "fnRingNeighbourIsSimpleAndSymmetric", fn := fun _ => fun
  | [d1, d2, d3] => { results := [.lit (.bool true)], args := [d1, d2, d3] }
  | _ => none }
def fnRingNeighbourIsSimpleAndSymmetricRow : OpenClaim := { program := "qxb6602687a", sum := "6a049db1996364a86e698395ad82aff410c60acbcc64fde99e290cdb4dc64f96", func := "example.com/rumorweave/rumorweave/zzlaws_topology_b1.FnRingNeighbourIsSimpleAndSymmetric", spec := "fnRingNeighbourIsSimpleAndSymmetric", apart := false }
def FnRingNeighbourIsSimpleAndSymmetricSaid : Prop := fnRingNeighbourIsSimpleAndSymmetricRow.holds Try.pinned (OpenSpec.ofChange fnRingNeighbourIsSimpleAndSymmetricSpec)

/-- ITS FALSE NEIGHBOUR: 'it returns false'. Refute it at one input. -/
def fnRingNeighbourIsSimpleAndSymmetricWrong : ChangeSpec := { name := "fnRingNeighbourIsSimpleAndSymmetric", fn := fun _ => fun
  | [d1, d2, d3] => { results := [.lit (.bool false)], args := [d1, d2, d3] }
  | _ => none }
def FnRingNeighbourIsSimpleAndSymmetricWrongFalsely : Prop := fnRingNeighbourIsSimpleAndSymmetricRow.holds Try.pinned (OpenSpec.ofChange fnRingNeighbourIsSimpleAndSymmetricWrong)

/-- 'zzlaws_topology_b1.FnRingWalkIsOneCycleThroughAllNodes': WHATEVER THE INPUT: true; the input reads as it did. -/
def fnRingWalkIsOneCycleThroughAllNodesSpec : ChangeSpec := { name := "fnRingWalkIsOneCycleThroughAllNodes", fn := fun _ => fun
  | [d] => { results := [.lit (.bool true)], args := [d] }
  | _ => none }
def fnRingWalkIsOneCycleThroughAllNodesRow : OpenClaim := { program := "qxb6602687a", sum := "6a049db1996364a86e698395ad82aff410c60acbcc64fde99e290cdb4dc64f96", func := "example.com/rumorweave/rumorweave/zzlaws_topology_b1.FnRingWalkIsOneCycleThroughAllNodes", spec := "fnRingWalkIsOneCycleThroughAllNodes", apart := false }
def FnRingWalkIsOneCycleThroughAllNodesSaid : Prop := fnRingWalkIsOneCycleThroughAllNodesRow.holds Try.pinned (OpenSpec.ofChange fnRingWalkIsOneCycleThroughAllNodesSpec)

/-- ITS FALSE NEIGHBOUR: 'it returns false'. Refute it at one input. -/
def fnRingWalkIsOneCycleThroughAllNodesWrong : ChangeSpec := { name := "fnRingWalkIsOneCycleThroughAllNodes", fn := fun _ => fun
  | [d] => { results := [.lit (.bool false)], args := [d] }
  | _ => none }
def FnRingWalkIsOneCycleThroughAllNodesWrongFalsely : Prop := fnRingWalkIsOneCycleThroughAllNodesRow.holds Try.pinned (OpenSpec.ofChange fnRingWalkIsOneCycleThroughAllNodesWrong)

/-- 'zzlaws_topology_b1.FnBarbellNeighbourIsIthAscendingNeighbour': WHATEVER THE INPUT: true; the input reads as it did. -/
def fnBarbellNeighbourIsIthAscendingNeighbourSpec : ChangeSpec := { name := "fnBarbellNeighbourIsIthAscendingNeighbour", fn := fun _ => fun
  | [d1, d2, d3] => { results := [.lit (.bool true)], args := [d1, d2, d3] }
  | _ => none }
def fnBarbellNeighbourIsIthAscendingNeighbourRow : OpenClaim := { program := "qxb6602687a", sum := "6a049db1996364a86e698395ad82aff410c60acbcc64fde99e290cdb4dc64f96", func := "example.com/rumorweave/rumorweave/zzlaws_topology_b1.FnBarbellNeighbourIsIthAscendingNeighbour", spec := "fnBarbellNeighbourIsIthAscendingNeighbour", apart := false }
def FnBarbellNeighbourIsIthAscendingNeighbourSaid : Prop := fnBarbellNeighbourIsIthAscendingNeighbourRow.holds Try.pinned (OpenSpec.ofChange fnBarbellNeighbourIsIthAscendingNeighbourSpec)

/-- ITS FALSE NEIGHBOUR: 'it returns false'. Refute it at one input. -/
def fnBarbellNeighbourIsIthAscendingNeighbourWrong : ChangeSpec := { name := "fnBarbellNeighbourIsIthAscendingNeighbour", fn := fun _ => fun
  | [d1, d2, d3] => { results := [.lit (.bool false)], args := [d1, d2, d3] }
  | _ => none }
def FnBarbellNeighbourIsIthAscendingNeighbourWrongFalsely : Prop := fnBarbellNeighbourIsIthAscendingNeighbourRow.holds Try.pinned (OpenSpec.ofChange fnBarbellNeighbourIsIthAscendingNeighbourWrong)

/-- 'zzlaws_topology_b1.FnBarbellNeighbourIsSymmetric': WHATEVER THE INPUT: true; the input reads as it did. -/
def fnBarbellNeighbourIsSymmetricSpec : ChangeSpec := { name := "fnBarbellNeighbourIsSymmetric", fn := fun _ => fun
  | [d1, d2, d3] => { results := [.lit (.bool true)], args := [d1, d2, d3] }
  | _ => none }
def fnBarbellNeighbourIsSymmetricRow : OpenClaim := { program := "qxb6602687a", sum := "6a049db1996364a86e698395ad82aff410c60acbcc64fde99e290cdb4dc64f96", func := "example.com/rumorweave/rumorweave/zzlaws_topology_b1.FnBarbellNeighbourIsSymmetric", spec := "fnBarbellNeighbourIsSymmetric", apart := false }
def FnBarbellNeighbourIsSymmetricSaid : Prop := fnBarbellNeighbourIsSymmetricRow.holds Try.pinned (OpenSpec.ofChange fnBarbellNeighbourIsSymmetricSpec)

/-- ITS FALSE NEIGHBOUR: 'it returns false'. Refute it at one input. -/
def fnBarbellNeighbourIsSymmetricWrong : ChangeSpec := { name := "fnBarbellNeighbourIsSymmetric", fn := fun _ => fun
  | [d1, d2, d3] => { results := [.lit (.bool false)], args := [d1, d2, d3] }
  | _ => none }
def FnBarbellNeighbourIsSymmetricWrongFalsely : Prop := fnBarbellNeighbourIsSymmetricRow.holds Try.pinned (OpenSpec.ofChange fnBarbellNeighbourIsSymmetricWrong)

/-- 'zzlaws_topology_b1.FnComplementMatchesMembershipModel': WHATEVER THE INPUT: true; the input reads as it did. -/
def fnComplementMatchesMembershipModelSpec : ChangeSpec := { name := "fnComplementMatchesMembershipModel", fn := fun _ => fun
  | [d1, d2] => { results := [.lit (.bool true)], args := [d1, d2] }
  | _ => none }
def fnComplementMatchesMembershipModelRow : OpenClaim := { program := "qxb6602687a", sum := "6a049db1996364a86e698395ad82aff410c60acbcc64fde99e290cdb4dc64f96", func := "example.com/rumorweave/rumorweave/zzlaws_topology_b1.FnComplementMatchesMembershipModel", spec := "fnComplementMatchesMembershipModel", apart := false }
def FnComplementMatchesMembershipModelSaid : Prop := fnComplementMatchesMembershipModelRow.holds Try.pinned (OpenSpec.ofChange fnComplementMatchesMembershipModelSpec)

/-- ITS FALSE NEIGHBOUR: 'it returns false'. Refute it at one input. -/
def fnComplementMatchesMembershipModelWrong : ChangeSpec := { name := "fnComplementMatchesMembershipModel", fn := fun _ => fun
  | [d1, d2] => { results := [.lit (.bool false)], args := [d1, d2] }
  | _ => none }
def FnComplementMatchesMembershipModelWrongFalsely : Prop := fnComplementMatchesMembershipModelRow.holds Try.pinned (OpenSpec.ofChange fnComplementMatchesMembershipModelWrong)

/-- 'zzlaws_topology_b1.FnComplementTwiceIsIdentity': WHATEVER THE INPUT: true; the input reads as it did. -/
def fnComplementTwiceIsIdentitySpec : ChangeSpec := { name := "fnComplementTwiceIsIdentity", fn := fun _ => fun
  | [d1, d2] => { results := [.lit (.bool true)], args := [d1, d2] }
  | _ => none }
def fnComplementTwiceIsIdentityRow : OpenClaim := { program := "qxb6602687a", sum := "6a049db1996364a86e698395ad82aff410c60acbcc64fde99e290cdb4dc64f96", func := "example.com/rumorweave/rumorweave/zzlaws_topology_b1.FnComplementTwiceIsIdentity", spec := "fnComplementTwiceIsIdentity", apart := false }
def FnComplementTwiceIsIdentitySaid : Prop := fnComplementTwiceIsIdentityRow.holds Try.pinned (OpenSpec.ofChange fnComplementTwiceIsIdentitySpec)

/-- ITS FALSE NEIGHBOUR: 'it returns false'. Refute it at one input. -/
def fnComplementTwiceIsIdentityWrong : ChangeSpec := { name := "fnComplementTwiceIsIdentity", fn := fun _ => fun
  | [d1, d2] => { results := [.lit (.bool false)], args := [d1, d2] }
  | _ => none }
def FnComplementTwiceIsIdentityWrongFalsely : Prop := fnComplementTwiceIsIdentityRow.holds Try.pinned (OpenSpec.ofChange fnComplementTwiceIsIdentityWrong)

end Rows
end Go.Proofs.Qxb6602687a
