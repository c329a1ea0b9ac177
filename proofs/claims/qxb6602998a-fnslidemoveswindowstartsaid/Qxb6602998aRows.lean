/-
  No cell of these rows narrows 'for every input' (looked for: loops, veiled, ifaces, maps, wideKeys, modest, calm, conditions, laid).
  DERIVED. THE GIVEN ROWS OF THIS SEAT. 6 by the template 'for every input the law returns true; each argument reads behind the call as it read before'; 0 by the template 'total and deterministic' (their statements: Qxb6602998aTotals.lean).
  GIVEN WITH THE SEED: the statements are not yours to turn. If you find one false, say at which input.
  Laid BY PROGRAM, IN A SANDBOX (cutbox-rows.mjs): the forced cells as the released guide's own fill.sh prints them over the translation c8d6963a571b79d2… (all of the seat's roots in one cut). By AI agents, Wed Nov 11 2026. No macro, syntax, notation, axiom, sorry.
-/
import Derived.Test.Qxb6602998aChecked
import GoSem.Claim
import GoSem.ClaimJoined
import GoSem.ClaimMapViews
import Derived.JoinedTies
import Derived.KernelRfl
namespace Go.Proofs.Qxb6602998a
/- THE CELL 'sum', in the pinned program and in every row, IS THE sha256 OF THE DUMP (.gsa) THAT Qxb6602998aProg.lean LOADS. Nothing in Lean hashes anything: it is a label: what it is worth is what the hold of that sum in a sandbox is worth. -/
noncomputable def Try.pinned : Pinned := { name := "qxb6602998a", sum := "c8d6963a571b79d2000c99188c4f58a000358d9327d69fe677b1b024a3aa914c", checked := Try.checked }
namespace Rows
def none {H : Type} : Left H := { results := [], args := [] }

/-- 'zzlaws_internal_choke_b1.FnEvictPicksFirstRichestServed': WHATEVER THE INPUT: true; the input reads as it did. -/
def fnEvictPicksFirstRichestServedSpec : ChangeSpec := { name := "fnEvictPicksFirstRichestServed", fn := fun _ => fun
  | [d1, d2] => { results := [.lit (.bool true)], args := [d1, d2] }
  | _ => none }
def fnEvictPicksFirstRichestServedRow : OpenClaim := { program := "qxb6602998a", sum := "c8d6963a571b79d2000c99188c4f58a000358d9327d69fe677b1b024a3aa914c", func := "example.com/murmuration/murmuration/zzlaws_internal_choke_b1.FnEvictPicksFirstRichestServed", spec := "fnEvictPicksFirstRichestServed", apart := false }
def FnEvictPicksFirstRichestServedSaid : Prop := fnEvictPicksFirstRichestServedRow.holds Try.pinned (OpenSpec.ofChange fnEvictPicksFirstRichestServedSpec)

/-- ITS FALSE NEIGHBOUR: 'it returns false'. Refute it at one input. -/
def fnEvictPicksFirstRichestServedWrong : ChangeSpec := { name := "fnEvictPicksFirstRichestServed", fn := fun _ => fun
  | [d1, d2] => { results := [.lit (.bool false)], args := [d1, d2] }
  | _ => none }
def FnEvictPicksFirstRichestServedWrongFalsely : Prop := fnEvictPicksFirstRichestServedRow.holds Try.pinned (OpenSpec.ofChange fnEvictPicksFirstRichestServedWrong)

/-- 'zzlaws_internal_choke_b1.FnEvictFullOriginAgreesWithWanted': WHATEVER THE INPUT: true; the input reads as it did. -/
def fnEvictFullOriginAgreesWithWantedSpec : ChangeSpec := { name := "fnEvictFullOriginAgreesWithWanted", fn := fun _ => fun
  | [d1, d2] => { results := [.lit (.bool true)], args := [d1, d2] }
  | _ => none }
def fnEvictFullOriginAgreesWithWantedRow : OpenClaim := { program := "qxb6602998a", sum := "c8d6963a571b79d2000c99188c4f58a000358d9327d69fe677b1b024a3aa914c", func := "example.com/murmuration/murmuration/zzlaws_internal_choke_b1.FnEvictFullOriginAgreesWithWanted", spec := "fnEvictFullOriginAgreesWithWanted", apart := false }
def FnEvictFullOriginAgreesWithWantedSaid : Prop := fnEvictFullOriginAgreesWithWantedRow.holds Try.pinned (OpenSpec.ofChange fnEvictFullOriginAgreesWithWantedSpec)

/-- ITS FALSE NEIGHBOUR: 'it returns false'. Refute it at one input. -/
def fnEvictFullOriginAgreesWithWantedWrong : ChangeSpec := { name := "fnEvictFullOriginAgreesWithWanted", fn := fun _ => fun
  | [d1, d2] => { results := [.lit (.bool false)], args := [d1, d2] }
  | _ => none }
def FnEvictFullOriginAgreesWithWantedWrongFalsely : Prop := fnEvictFullOriginAgreesWithWantedRow.holds Try.pinned (OpenSpec.ofChange fnEvictFullOriginAgreesWithWantedWrong)

/-- 'zzlaws_internal_choke_b1.FnWantedIsRoomPlusEvictable': WHATEVER THE INPUT: true; the input reads as it did. -/
def fnWantedIsRoomPlusEvictableSpec : ChangeSpec := { name := "fnWantedIsRoomPlusEvictable", fn := fun _ => fun
  | [d1, d2] => { results := [.lit (.bool true)], args := [d1, d2] }
  | _ => none }
def fnWantedIsRoomPlusEvictableRow : OpenClaim := { program := "qxb6602998a", sum := "c8d6963a571b79d2000c99188c4f58a000358d9327d69fe677b1b024a3aa914c", func := "example.com/murmuration/murmuration/zzlaws_internal_choke_b1.FnWantedIsRoomPlusEvictable", spec := "fnWantedIsRoomPlusEvictable", apart := false }
def FnWantedIsRoomPlusEvictableSaid : Prop := fnWantedIsRoomPlusEvictableRow.holds Try.pinned (OpenSpec.ofChange fnWantedIsRoomPlusEvictableSpec)

/-- ITS FALSE NEIGHBOUR: 'it returns false'. Refute it at one input. -/
def fnWantedIsRoomPlusEvictableWrong : ChangeSpec := { name := "fnWantedIsRoomPlusEvictable", fn := fun _ => fun
  | [d1, d2] => { results := [.lit (.bool false)], args := [d1, d2] }
  | _ => none }
def FnWantedIsRoomPlusEvictableWrongFalsely : Prop := fnWantedIsRoomPlusEvictableRow.holds Try.pinned (OpenSpec.ofChange fnWantedIsRoomPlusEvictableWrong)

/-- 'zzlaws_internal_choke_b1.FnWantedAddsOverConcatenation': WHATEVER THE INPUT: true; the input reads as it did. -/
def fnWantedAddsOverConcatenationSpec : ChangeSpec := { name := "fnWantedAddsOverConcatenation", fn := fun _ => fun
  | [d1, d2, d3] => { results := [.lit (.bool true)], args := [d1, d2, d3] }
  | _ => none }
def fnWantedAddsOverConcatenationRow : OpenClaim := { program := "qxb6602998a", sum := "c8d6963a571b79d2000c99188c4f58a000358d9327d69fe677b1b024a3aa914c", func := "example.com/murmuration/murmuration/zzlaws_internal_choke_b1.FnWantedAddsOverConcatenation", spec := "fnWantedAddsOverConcatenation", apart := false }
def FnWantedAddsOverConcatenationSaid : Prop := fnWantedAddsOverConcatenationRow.holds Try.pinned (OpenSpec.ofChange fnWantedAddsOverConcatenationSpec)

/-- ITS FALSE NEIGHBOUR: 'it returns false'. Refute it at one input. -/
def fnWantedAddsOverConcatenationWrong : ChangeSpec := { name := "fnWantedAddsOverConcatenation", fn := fun _ => fun
  | [d1, d2, d3] => { results := [.lit (.bool false)], args := [d1, d2, d3] }
  | _ => none }
def FnWantedAddsOverConcatenationWrongFalsely : Prop := fnWantedAddsOverConcatenationRow.holds Try.pinned (OpenSpec.ofChange fnWantedAddsOverConcatenationWrong)

/-- 'zzlaws_internal_choke_b1.FnSlideMovesWindowStart': WHATEVER THE INPUT: true; the input reads as it did. -/
def fnSlideMovesWindowStartSpec : ChangeSpec := { name := "fnSlideMovesWindowStart", fn := fun _ => fun
  | [d1, d2, d3, d4] => { results := [.lit (.bool true)], args := [d1, d2, d3, d4] }
  | _ => none }
def fnSlideMovesWindowStartRow : OpenClaim := { program := "qxb6602998a", sum := "c8d6963a571b79d2000c99188c4f58a000358d9327d69fe677b1b024a3aa914c", func := "example.com/murmuration/murmuration/zzlaws_internal_choke_b1.FnSlideMovesWindowStart", spec := "fnSlideMovesWindowStart", apart := false }
def FnSlideMovesWindowStartSaid : Prop := fnSlideMovesWindowStartRow.holds Try.pinned (OpenSpec.ofChange fnSlideMovesWindowStartSpec)

/-- ITS FALSE NEIGHBOUR: 'it returns false'. Refute it at one input. -/
def fnSlideMovesWindowStartWrong : ChangeSpec := { name := "fnSlideMovesWindowStart", fn := fun _ => fun
  | [d1, d2, d3, d4] => { results := [.lit (.bool false)], args := [d1, d2, d3, d4] }
  | _ => none }
def FnSlideMovesWindowStartWrongFalsely : Prop := fnSlideMovesWindowStartRow.holds Try.pinned (OpenSpec.ofChange fnSlideMovesWindowStartWrong)

/-- 'zzlaws_internal_choke_b1.FnSlideNeverLooksBack': WHATEVER THE INPUT: true; the input reads as it did. -/
def fnSlideNeverLooksBackSpec : ChangeSpec := { name := "fnSlideNeverLooksBack", fn := fun _ => fun
  | [d1, d2, d3, d4, d5] => { results := [.lit (.bool true)], args := [d1, d2, d3, d4, d5] }
  | _ => none }
def fnSlideNeverLooksBackRow : OpenClaim := { program := "qxb6602998a", sum := "c8d6963a571b79d2000c99188c4f58a000358d9327d69fe677b1b024a3aa914c", func := "example.com/murmuration/murmuration/zzlaws_internal_choke_b1.FnSlideNeverLooksBack", spec := "fnSlideNeverLooksBack", apart := false }
def FnSlideNeverLooksBackSaid : Prop := fnSlideNeverLooksBackRow.holds Try.pinned (OpenSpec.ofChange fnSlideNeverLooksBackSpec)

/-- ITS FALSE NEIGHBOUR: 'it returns false'. Refute it at one input. -/
def fnSlideNeverLooksBackWrong : ChangeSpec := { name := "fnSlideNeverLooksBack", fn := fun _ => fun
  | [d1, d2, d3, d4, d5] => { results := [.lit (.bool false)], args := [d1, d2, d3, d4, d5] }
  | _ => none }
def FnSlideNeverLooksBackWrongFalsely : Prop := fnSlideNeverLooksBackRow.holds Try.pinned (OpenSpec.ofChange fnSlideNeverLooksBackWrong)

end Rows
end Go.Proofs.Qxb6602998a
