/-
  No cell of these rows narrows 'for every input' (looked for: loops, veiled, ifaces, maps, wideKeys, modest, calm, conditions, laid).
  DERIVED. THE GIVEN ROWS OF THIS SEAT. 3 by the template 'for every input the law returns true; each argument reads behind the call as it read before'; 0 by the template 'total and deterministic' (their statements: Qxb6602739aTotals.lean).
  GIVEN WITH THE SEED: the statements are not yours to turn. If you find one false, say at which input.
  Laid BY PROGRAM, IN A SANDBOX (cutbox-rows.mjs): the forced cells as the released guide's own fill.sh prints them over the translation d38110c37af1c592… (all of the seat's roots in one cut). By AI agents, Wed Nov 11 2026. No macro, syntax, notation, axiom, sorry.
-/
import Derived.Test.Qxb6602739aChecked
import GoSem.Claim
import GoSem.ClaimJoined
import GoSem.ClaimMapViews
import Derived.JoinedTies
import Derived.KernelRfl
namespace Go.Proofs.Qxb6602739a
/- THE CELL 'sum', in the pinned program and in every row, IS THE sha256 OF THE DUMP (.gsa) THAT Qxb6602739aProg.lean LOADS. Nothing in Lean hashes anything: it is a label: what it is worth is what the hold of that sum in a sandbox is worth. -/
noncomputable def Try.pinned : Pinned := { name := "qxb6602739a", sum := "d38110c37af1c59223e78e68c7f72fc21e5e0656db5fa510b65d19dabf088a5b", checked := Try.checked }
namespace Rows
def none {H : Type} : Left H := { results := [], args := [] }

/-- 'zzlaws_internal_money_b1.FnIsPlainMatchesSplitModel': WHATEVER THE INPUT: true; the input reads as it did. -/
def fnIsPlainMatchesSplitModelSpec : ChangeSpec := { name := "fnIsPlainMatchesSplitModel", fn := fun _ => fun
  | [d] => { results := [.lit (.bool true)], args := [d] }
  | _ => none }
def fnIsPlainMatchesSplitModelRow : OpenClaim := { program := "qxb6602739a", sum := "d38110c37af1c59223e78e68c7f72fc21e5e0656db5fa510b65d19dabf088a5b", func := "example.com/tuoguan/tuoguan/zzlaws_internal_money_b1.FnIsPlainMatchesSplitModel", spec := "fnIsPlainMatchesSplitModel", apart := false }
def FnIsPlainMatchesSplitModelSaid : Prop := fnIsPlainMatchesSplitModelRow.holds Try.pinned (OpenSpec.ofChange fnIsPlainMatchesSplitModelSpec)

/-- ITS FALSE NEIGHBOUR: 'it returns false'. Refute it at one input. -/
def fnIsPlainMatchesSplitModelWrong : ChangeSpec := { name := "fnIsPlainMatchesSplitModel", fn := fun _ => fun
  | [d] => { results := [.lit (.bool false)], args := [d] }
  | _ => none }
def FnIsPlainMatchesSplitModelWrongFalsely : Prop := fnIsPlainMatchesSplitModelRow.holds Try.pinned (OpenSpec.ofChange fnIsPlainMatchesSplitModelWrong)

/-- 'zzlaws_internal_money_b1.FnIsPlainMinusSign': WHATEVER THE INPUT: true; the input reads as it did. -/
def fnIsPlainMinusSignSpec : ChangeSpec := { name := "fnIsPlainMinusSign", fn := fun _ => fun
  | [d] => { results := [.lit (.bool true)], args := [d] }
  | _ => none }
def fnIsPlainMinusSignRow : OpenClaim := { program := "qxb6602739a", sum := "d38110c37af1c59223e78e68c7f72fc21e5e0656db5fa510b65d19dabf088a5b", func := "example.com/tuoguan/tuoguan/zzlaws_internal_money_b1.FnIsPlainMinusSign", spec := "fnIsPlainMinusSign", apart := false }
def FnIsPlainMinusSignSaid : Prop := fnIsPlainMinusSignRow.holds Try.pinned (OpenSpec.ofChange fnIsPlainMinusSignSpec)

/-- ITS FALSE NEIGHBOUR: 'it returns false'. Refute it at one input. -/
def fnIsPlainMinusSignWrong : ChangeSpec := { name := "fnIsPlainMinusSign", fn := fun _ => fun
  | [d] => { results := [.lit (.bool false)], args := [d] }
  | _ => none }
def FnIsPlainMinusSignWrongFalsely : Prop := fnIsPlainMinusSignRow.holds Try.pinned (OpenSpec.ofChange fnIsPlainMinusSignWrong)

/-- 'zzlaws_internal_money_b1.FnIsPlainAcceptedShape': WHATEVER THE INPUT: true; the input reads as it did. -/
def fnIsPlainAcceptedShapeSpec : ChangeSpec := { name := "fnIsPlainAcceptedShape", fn := fun _ => fun
  | [d] => { results := [.lit (.bool true)], args := [d] }
  | _ => none }
def fnIsPlainAcceptedShapeRow : OpenClaim := { program := "qxb6602739a", sum := "d38110c37af1c59223e78e68c7f72fc21e5e0656db5fa510b65d19dabf088a5b", func := "example.com/tuoguan/tuoguan/zzlaws_internal_money_b1.FnIsPlainAcceptedShape", spec := "fnIsPlainAcceptedShape", apart := false }
def FnIsPlainAcceptedShapeSaid : Prop := fnIsPlainAcceptedShapeRow.holds Try.pinned (OpenSpec.ofChange fnIsPlainAcceptedShapeSpec)

/-- ITS FALSE NEIGHBOUR: 'it returns false'. Refute it at one input. -/
def fnIsPlainAcceptedShapeWrong : ChangeSpec := { name := "fnIsPlainAcceptedShape", fn := fun _ => fun
  | [d] => { results := [.lit (.bool false)], args := [d] }
  | _ => none }
def FnIsPlainAcceptedShapeWrongFalsely : Prop := fnIsPlainAcceptedShapeRow.holds Try.pinned (OpenSpec.ofChange fnIsPlainAcceptedShapeWrong)

end Rows
end Go.Proofs.Qxb6602739a
