/-
  No cell of these rows narrows 'for every input' (looked for: loops, veiled, ifaces, maps, wideKeys, modest, calm, conditions, laid).
  DERIVED. THE GIVEN ROWS OF THIS SEAT. 2 by the template 'for every input the law returns true; each argument reads behind the call as it read before'; 0 by the template 'total and deterministic' (their statements: Qxb6628260aTotals.lean).
  GIVEN WITH THE SEED: the statements are not yours to turn. If you find one false, say at which input.
  Laid BY PROGRAM, IN A SANDBOX (cutbox-rows.mjs): the forced cells as the released guide's own fill.sh prints them over the translation 789e64e40fcfd437… (all of the seat's roots in one cut). By AI agents, Wed Nov 11 2026. No macro, syntax, notation, axiom, sorry.
-/
import Derived.Test.Qxb6628260aChecked
import GoSem.Claim
import GoSem.ClaimJoined
import GoSem.ClaimMapViews
import Derived.JoinedTies
import Derived.KernelRfl
namespace Go.Proofs.Qxb6628260a
/- THE CELL 'sum', in the pinned program and in every row, IS THE sha256 OF THE DUMP (.gsa) THAT Qxb6628260aProg.lean LOADS. Nothing in Lean hashes anything: it is a label: what it is worth is what the hold of that sum in a sandbox is worth. -/
noncomputable def Try.pinned : Pinned := { name := "qxb6628260a", sum := "789e64e40fcfd437d8fc1a18b180ff6f26074f7409df9c65973388dad45003ef", checked := Try.checked }
namespace Rows
def none {H : Type} : Left H := { results := [], args := [] }

/-- 'zzlaws_statement_b1.FnCodesSplitAtAnyCut': WHATEVER THE INPUT: true; the input reads as it did. -/
def fnCodesSplitAtAnyCutSpec : ChangeSpec := { name := "fnCodesSplitAtAnyCut", fn := fun _ => fun
  | [d1, d2, d3] => { results := [.lit (.bool true)], args := [d1, d2, d3] }
  | _ => none }
def fnCodesSplitAtAnyCutRow : OpenClaim := { program := "qxb6628260a", sum := "789e64e40fcfd437d8fc1a18b180ff6f26074f7409df9c65973388dad45003ef", func := "example.com/bilanciel/bilanciel/zzlaws_statement_b1.FnCodesSplitAtAnyCut", spec := "fnCodesSplitAtAnyCut", apart := false }
def FnCodesSplitAtAnyCutSaid : Prop := fnCodesSplitAtAnyCutRow.holds Try.pinned (OpenSpec.ofChange fnCodesSplitAtAnyCutSpec)

/-- ITS FALSE NEIGHBOUR: 'it returns false'. Refute it at one input. -/
def fnCodesSplitAtAnyCutWrong : ChangeSpec := { name := "fnCodesSplitAtAnyCut", fn := fun _ => fun
  | [d1, d2, d3] => { results := [.lit (.bool false)], args := [d1, d2, d3] }
  | _ => none }
def FnCodesSplitAtAnyCutWrongFalsely : Prop := fnCodesSplitAtAnyCutRow.holds Try.pinned (OpenSpec.ofChange fnCodesSplitAtAnyCutWrong)

/-- 'zzlaws_statement_b1.FnCodesReversedAndFresh': WHATEVER THE INPUT: true; the input reads as it did. -/
def fnCodesReversedAndFreshSpec : ChangeSpec := { name := "fnCodesReversedAndFresh", fn := fun _ => fun
  | [d1, d2] => { results := [.lit (.bool true)], args := [d1, d2] }
  | _ => none }
def fnCodesReversedAndFreshRow : OpenClaim := { program := "qxb6628260a", sum := "789e64e40fcfd437d8fc1a18b180ff6f26074f7409df9c65973388dad45003ef", func := "example.com/bilanciel/bilanciel/zzlaws_statement_b1.FnCodesReversedAndFresh", spec := "fnCodesReversedAndFresh", apart := false }
def FnCodesReversedAndFreshSaid : Prop := fnCodesReversedAndFreshRow.holds Try.pinned (OpenSpec.ofChange fnCodesReversedAndFreshSpec)

/-- ITS FALSE NEIGHBOUR: 'it returns false'. Refute it at one input. -/
def fnCodesReversedAndFreshWrong : ChangeSpec := { name := "fnCodesReversedAndFresh", fn := fun _ => fun
  | [d1, d2] => { results := [.lit (.bool false)], args := [d1, d2] }
  | _ => none }
def FnCodesReversedAndFreshWrongFalsely : Prop := fnCodesReversedAndFreshRow.holds Try.pinned (OpenSpec.ofChange fnCodesReversedAndFreshWrong)

end Rows
end Go.Proofs.Qxb6628260a
