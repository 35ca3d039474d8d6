/-
  No cell of these rows narrows 'for every input' (looked for: loops, veiled, ifaces, maps, wideKeys, modest, calm, conditions, laid).
  DERIVED. THE GIVEN ROWS OF THIS SEAT. 2 by the template 'for every input the law returns true; each argument reads behind the call as it read before'; 0 by the template 'total and deterministic' (their statements: Qxb6628539aTotals.lean).
  GIVEN WITH THE SEED: the statements are not yours to turn. If you find one false, say at which input.
  Laid BY PROGRAM, IN A SANDBOX (cutbox-rows.mjs): the forced cells as the released guide's own fill.sh prints them over the translation d5f5f9b084f8ee60… (all of the seat's roots in one cut). By AI agents, Wed Nov 11 2026. No macro, syntax, notation, axiom, sorry.
-/
import Derived.Test.Qxb6628539aChecked
import GoSem.Claim
import GoSem.ClaimJoined
import GoSem.ClaimMapViews
import Derived.JoinedTies
import Derived.KernelRfl
namespace Go.Proofs.Qxb6628539a
/- THE CELL 'sum', in the pinned program and in every row, IS THE sha256 OF THE DUMP (.gsa) THAT Qxb6628539aProg.lean LOADS. Nothing in Lean hashes anything: it is a label: what it is worth is what the hold of that sum in a sandbox is worth. -/
noncomputable def Try.pinned : Pinned := { name := "qxb6628539a", sum := "d5f5f9b084f8ee609da947aa99eb531db49b296c2aa96a0aa64781620fd12bed", checked := Try.checked }
namespace Rows
def none {H : Type} : Left H := { results := [], args := [] }

/-- 'zzlaws_root_b1.FnNumberMatchesDecimalModel': WHATEVER THE INPUT: true; the input reads as it did. -/
def fnNumberMatchesDecimalModelSpec : ChangeSpec := { name := "fnNumberMatchesDecimalModel", fn := fun _ => fun
  | [d] => { results := [.lit (.bool true)], args := [d] }
  | _ => none }
def fnNumberMatchesDecimalModelRow : OpenClaim := { program := "qxb6628539a", sum := "d5f5f9b084f8ee609da947aa99eb531db49b296c2aa96a0aa64781620fd12bed", func := "example.com/crontide/crontide/zzlaws_root_b1.FnNumberMatchesDecimalModel", spec := "fnNumberMatchesDecimalModel", apart := false }
def FnNumberMatchesDecimalModelSaid : Prop := fnNumberMatchesDecimalModelRow.holds Try.pinned (OpenSpec.ofChange fnNumberMatchesDecimalModelSpec)

/-- ITS FALSE NEIGHBOUR: 'it returns false'. Refute it at one input. -/
def fnNumberMatchesDecimalModelWrong : ChangeSpec := { name := "fnNumberMatchesDecimalModel", fn := fun _ => fun
  | [d] => { results := [.lit (.bool false)], args := [d] }
  | _ => none }
def FnNumberMatchesDecimalModelWrongFalsely : Prop := fnNumberMatchesDecimalModelRow.holds Try.pinned (OpenSpec.ofChange fnNumberMatchesDecimalModelWrong)

/-- 'zzlaws_root_b1.FnNumberConcatAtAnyCut': WHATEVER THE INPUT: true; the input reads as it did. -/
def fnNumberConcatAtAnyCutSpec : ChangeSpec := { name := "fnNumberConcatAtAnyCut", fn := fun _ => fun
  | [d1, d2] => { results := [.lit (.bool true)], args := [d1, d2] }
  | _ => none }
def fnNumberConcatAtAnyCutRow : OpenClaim := { program := "qxb6628539a", sum := "d5f5f9b084f8ee609da947aa99eb531db49b296c2aa96a0aa64781620fd12bed", func := "example.com/crontide/crontide/zzlaws_root_b1.FnNumberConcatAtAnyCut", spec := "fnNumberConcatAtAnyCut", apart := false }
def FnNumberConcatAtAnyCutSaid : Prop := fnNumberConcatAtAnyCutRow.holds Try.pinned (OpenSpec.ofChange fnNumberConcatAtAnyCutSpec)

/-- ITS FALSE NEIGHBOUR: 'it returns false'. Refute it at one input. -/
def fnNumberConcatAtAnyCutWrong : ChangeSpec := { name := "fnNumberConcatAtAnyCut", fn := fun _ => fun
  | [d1, d2] => { results := [.lit (.bool false)], args := [d1, d2] }
  | _ => none }
def FnNumberConcatAtAnyCutWrongFalsely : Prop := fnNumberConcatAtAnyCutRow.holds Try.pinned (OpenSpec.ofChange fnNumberConcatAtAnyCutWrong)

end Rows
end Go.Proofs.Qxb6628539a
