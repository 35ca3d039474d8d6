/-
  No cell of these rows narrows 'for every input' (looked for: loops, veiled, ifaces, maps, wideKeys, modest, calm, conditions, laid).
  DERIVED. THE GIVEN ROWS OF THIS SEAT. 2 by the template 'for every input the law returns true; each argument reads behind the call as it read before'; 0 by the template 'total and deterministic' (their statements: Qxb6630526aTotals.lean).
  GIVEN WITH THE SEED: the statements are not yours to turn. If you find one false, say at which input.
  Laid BY PROGRAM, IN A SANDBOX (cutbox-rows.mjs): the forced cells as the released guide's own fill.sh prints them over the translation d00ba04df482adc0… (all of the seat's roots in one cut). By AI agents, Wed Nov 11 2026. No macro, syntax, notation, axiom, sorry.
-/
import Derived.Test.Qxb6630526aChecked
import GoSem.Claim
import GoSem.ClaimJoined
import GoSem.ClaimMapViews
import Derived.JoinedTies
import Derived.KernelRfl
namespace Go.Proofs.Qxb6630526a
/- THE CELL 'sum', in the pinned program and in every row, IS THE sha256 OF THE DUMP (.gsa) THAT Qxb6630526aProg.lean LOADS. Nothing in Lean hashes anything: it is a label: what it is worth is what the hold of that sum in a sandbox is worth. -/
noncomputable def Try.pinned : Pinned := { name := "qxb6630526a", sum := "d00ba04df482adc01717c284c7ac33acd2c1f0549a7924eab6e3e714eb4eba0f", checked := Try.checked }
namespace Rows
def none {H : Type} : Left H := { results := [], args := [] }

/-- 'zzlaws_root_b1.FnSettleIsCanonicalUnion': WHATEVER THE INPUT: true; the input reads as it did. -/
def fnSettleIsCanonicalUnionSpec : ChangeSpec := { name := "fnSettleIsCanonicalUnion", fn := fun _ => fun
  | [d1, d2] => { results := [.lit (.bool true)], args := [d1, d2] }
  | _ => none }
def fnSettleIsCanonicalUnionRow : OpenClaim := { program := "qxb6630526a", sum := "d00ba04df482adc01717c284c7ac33acd2c1f0549a7924eab6e3e714eb4eba0f", func := "example.com/holdfast/holdfast/zzlaws_root_b1.FnSettleIsCanonicalUnion", spec := "fnSettleIsCanonicalUnion", unfollowed := true, recurses := true, apart := false }
def FnSettleIsCanonicalUnionSaid : Prop := fnSettleIsCanonicalUnionRow.holds Try.pinned (OpenSpec.ofChange fnSettleIsCanonicalUnionSpec)

/-- ITS FALSE NEIGHBOUR: 'it returns false'. Refute it at one input. -/
def fnSettleIsCanonicalUnionWrong : ChangeSpec := { name := "fnSettleIsCanonicalUnion", fn := fun _ => fun
  | [d1, d2] => { results := [.lit (.bool false)], args := [d1, d2] }
  | _ => none }
def FnSettleIsCanonicalUnionWrongFalsely : Prop := fnSettleIsCanonicalUnionRow.holds Try.pinned (OpenSpec.ofChange fnSettleIsCanonicalUnionWrong)

/-- 'zzlaws_root_b1.FnSettleKeepsUnionSortedSeparated': WHATEVER THE INPUT: true; the input reads as it did. -/
def fnSettleKeepsUnionSortedSeparatedSpec : ChangeSpec := { name := "fnSettleKeepsUnionSortedSeparated", fn := fun _ => fun
  | [d] => { results := [.lit (.bool true)], args := [d] }
  | _ => none }
def fnSettleKeepsUnionSortedSeparatedRow : OpenClaim := { program := "qxb6630526a", sum := "d00ba04df482adc01717c284c7ac33acd2c1f0549a7924eab6e3e714eb4eba0f", func := "example.com/holdfast/holdfast/zzlaws_root_b1.FnSettleKeepsUnionSortedSeparated", spec := "fnSettleKeepsUnionSortedSeparated", unfollowed := true, recurses := true, apart := false }
def FnSettleKeepsUnionSortedSeparatedSaid : Prop := fnSettleKeepsUnionSortedSeparatedRow.holds Try.pinned (OpenSpec.ofChange fnSettleKeepsUnionSortedSeparatedSpec)

/-- ITS FALSE NEIGHBOUR: 'it returns false'. Refute it at one input. -/
def fnSettleKeepsUnionSortedSeparatedWrong : ChangeSpec := { name := "fnSettleKeepsUnionSortedSeparated", fn := fun _ => fun
  | [d] => { results := [.lit (.bool false)], args := [d] }
  | _ => none }
def FnSettleKeepsUnionSortedSeparatedWrongFalsely : Prop := fnSettleKeepsUnionSortedSeparatedRow.holds Try.pinned (OpenSpec.ofChange fnSettleKeepsUnionSortedSeparatedWrong)

end Rows
end Go.Proofs.Qxb6630526a
