/-
  No cell of these rows narrows 'for every input' (looked for: loops, veiled, ifaces, maps, wideKeys, modest, calm, conditions, laid).
  DERIVED. THE GIVEN ROWS OF THIS SEAT. 5 by the template 'for every input the law returns true; each argument reads behind the call as it read before'; 0 by the template 'total and deterministic' (their statements: Qxb6000997aTotals.lean).
  GIVEN WITH THE SEED: the statements are not yours to turn. If you find one false, say at which input.
  Laid BY PROGRAM, IN A SANDBOX (cutbox-rows.mjs): the forced cells as the released guide's own fill.sh prints them over the translation 7d17ee0aff19100b… (all of the seat's roots in one cut). By AI agents, Wed Nov 11 2026. No macro, syntax, notation, axiom, sorry.
-/
import Derived.Test.Qxb6000997aChecked
import GoSem.Claim
import GoSem.ClaimJoined
import GoSem.ClaimMapViews
import Derived.JoinedTies
import Derived.KernelRfl
namespace Go.Proofs.Qxb6000997a
/- THE CELL 'sum', in the pinned program and in every row, IS THE sha256 OF THE DUMP (.gsa) THAT Qxb6000997aProg.lean LOADS. Nothing in Lean hashes anything: it is a label: what it is worth is what the hold of that sum in a sandbox is worth. -/
noncomputable def Try.pinned : Pinned := { name := "qxb6000997a", sum := "7d17ee0aff19100bb95656e42e754345a5ac88cb5a0a4bfc11474608afc9f80c", checked := Try.checked }
namespace Rows
def none {H : Type} : Left H := { results := [], args := [] }

/-- 'zzlaws_root_b1.FnIsLowerHexMatchesAlphabet': WHATEVER THE INPUT: true; the input reads as it did. -/
def fnIsLowerHexMatchesAlphabetSpec : ChangeSpec := { name := "fnIsLowerHexMatchesAlphabet", fn := fun _ => fun
  | [d] => { results := [.lit (.bool true)], args := [d] }
  | _ => none }
def fnIsLowerHexMatchesAlphabetRow : OpenClaim := { program := "qxb6000997a", sum := "7d17ee0aff19100bb95656e42e754345a5ac88cb5a0a4bfc11474608afc9f80c", func := "example.com/woodrat/woodrat/zzlaws_root_b1.FnIsLowerHexMatchesAlphabet", spec := "fnIsLowerHexMatchesAlphabet", apart := false }
def FnIsLowerHexMatchesAlphabetSaid : Prop := fnIsLowerHexMatchesAlphabetRow.holds Try.pinned (OpenSpec.ofChange fnIsLowerHexMatchesAlphabetSpec)

/-- ITS FALSE NEIGHBOUR: 'it returns false'. Refute it at one input. -/
def fnIsLowerHexMatchesAlphabetWrong : ChangeSpec := { name := "fnIsLowerHexMatchesAlphabet", fn := fun _ => fun
  | [d] => { results := [.lit (.bool false)], args := [d] }
  | _ => none }
def FnIsLowerHexMatchesAlphabetWrongFalsely : Prop := fnIsLowerHexMatchesAlphabetRow.holds Try.pinned (OpenSpec.ofChange fnIsLowerHexMatchesAlphabetWrong)

/-- 'zzlaws_root_b1.FnIsLowerHexConcat': WHATEVER THE INPUT: true; the input reads as it did. -/
def fnIsLowerHexConcatSpec : ChangeSpec := { name := "fnIsLowerHexConcat", fn := fun _ => fun
  | [d1, d2] => { results := [.lit (.bool true)], args := [d1, d2] }
  | _ => none }
def fnIsLowerHexConcatRow : OpenClaim := { program := "qxb6000997a", sum := "7d17ee0aff19100bb95656e42e754345a5ac88cb5a0a4bfc11474608afc9f80c", func := "example.com/woodrat/woodrat/zzlaws_root_b1.FnIsLowerHexConcat", spec := "fnIsLowerHexConcat", apart := false }
def FnIsLowerHexConcatSaid : Prop := fnIsLowerHexConcatRow.holds Try.pinned (OpenSpec.ofChange fnIsLowerHexConcatSpec)

/-- ITS FALSE NEIGHBOUR: 'it returns false'. Refute it at one input. -/
def fnIsLowerHexConcatWrong : ChangeSpec := { name := "fnIsLowerHexConcat", fn := fun _ => fun
  | [d1, d2] => { results := [.lit (.bool false)], args := [d1, d2] }
  | _ => none }
def FnIsLowerHexConcatWrongFalsely : Prop := fnIsLowerHexConcatRow.holds Try.pinned (OpenSpec.ofChange fnIsLowerHexConcatWrong)

/-- 'zzlaws_root_b1.FnIsLowerHexAcceptsLowerRefusesUpper': WHATEVER THE INPUT: true; the input reads as it did. -/
def fnIsLowerHexAcceptsLowerRefusesUpperSpec : ChangeSpec := { name := "fnIsLowerHexAcceptsLowerRefusesUpper", fn := fun _ => fun
  | [d] => { results := [.lit (.bool true)], args := [d] }
  | _ => none }
def fnIsLowerHexAcceptsLowerRefusesUpperRow : OpenClaim := { program := "qxb6000997a", sum := "7d17ee0aff19100bb95656e42e754345a5ac88cb5a0a4bfc11474608afc9f80c", func := "example.com/woodrat/woodrat/zzlaws_root_b1.FnIsLowerHexAcceptsLowerRefusesUpper", spec := "fnIsLowerHexAcceptsLowerRefusesUpper", apart := false }
def FnIsLowerHexAcceptsLowerRefusesUpperSaid : Prop := fnIsLowerHexAcceptsLowerRefusesUpperRow.holds Try.pinned (OpenSpec.ofChange fnIsLowerHexAcceptsLowerRefusesUpperSpec)

/-- ITS FALSE NEIGHBOUR: 'it returns false'. Refute it at one input. -/
def fnIsLowerHexAcceptsLowerRefusesUpperWrong : ChangeSpec := { name := "fnIsLowerHexAcceptsLowerRefusesUpper", fn := fun _ => fun
  | [d] => { results := [.lit (.bool false)], args := [d] }
  | _ => none }
def FnIsLowerHexAcceptsLowerRefusesUpperWrongFalsely : Prop := fnIsLowerHexAcceptsLowerRefusesUpperRow.holds Try.pinned (OpenSpec.ofChange fnIsLowerHexAcceptsLowerRefusesUpperWrong)

/-- 'zzlaws_root_b1.FnNotPlainFlagsEveryBadByteAndNoneBelowTheFirst': WHATEVER THE INPUT: true; the input reads as it did. -/
def fnNotPlainFlagsEveryBadByteAndNoneBelowTheFirstSpec : ChangeSpec := { name := "fnNotPlainFlagsEveryBadByteAndNoneBelowTheFirst", fn := fun _ => fun
  | [d] => { results := [.lit (.bool true)], args := [d] }
  | _ => none }
def fnNotPlainFlagsEveryBadByteAndNoneBelowTheFirstRow : OpenClaim := { program := "qxb6000997a", sum := "7d17ee0aff19100bb95656e42e754345a5ac88cb5a0a4bfc11474608afc9f80c", func := "example.com/woodrat/woodrat/zzlaws_root_b1.FnNotPlainFlagsEveryBadByteAndNoneBelowTheFirst", spec := "fnNotPlainFlagsEveryBadByteAndNoneBelowTheFirst", apart := false }
def FnNotPlainFlagsEveryBadByteAndNoneBelowTheFirstSaid : Prop := fnNotPlainFlagsEveryBadByteAndNoneBelowTheFirstRow.holds Try.pinned (OpenSpec.ofChange fnNotPlainFlagsEveryBadByteAndNoneBelowTheFirstSpec)

/-- ITS FALSE NEIGHBOUR: 'it returns false'. Refute it at one input. -/
def fnNotPlainFlagsEveryBadByteAndNoneBelowTheFirstWrong : ChangeSpec := { name := "fnNotPlainFlagsEveryBadByteAndNoneBelowTheFirst", fn := fun _ => fun
  | [d] => { results := [.lit (.bool false)], args := [d] }
  | _ => none }
def FnNotPlainFlagsEveryBadByteAndNoneBelowTheFirstWrongFalsely : Prop := fnNotPlainFlagsEveryBadByteAndNoneBelowTheFirstRow.holds Try.pinned (OpenSpec.ofChange fnNotPlainFlagsEveryBadByteAndNoneBelowTheFirstWrong)

/-- 'zzlaws_root_b1.FnNotPlainFirstFlagIsFirstUnplainByte': WHATEVER THE INPUT: true; the input reads as it did. -/
def fnNotPlainFirstFlagIsFirstUnplainByteSpec : ChangeSpec := { name := "fnNotPlainFirstFlagIsFirstUnplainByte", fn := fun _ => fun
  | [d] => { results := [.lit (.bool true)], args := [d] }
  | _ => none }
def fnNotPlainFirstFlagIsFirstUnplainByteRow : OpenClaim := { program := "qxb6000997a", sum := "7d17ee0aff19100bb95656e42e754345a5ac88cb5a0a4bfc11474608afc9f80c", func := "example.com/woodrat/woodrat/zzlaws_root_b1.FnNotPlainFirstFlagIsFirstUnplainByte", spec := "fnNotPlainFirstFlagIsFirstUnplainByte", apart := false }
def FnNotPlainFirstFlagIsFirstUnplainByteSaid : Prop := fnNotPlainFirstFlagIsFirstUnplainByteRow.holds Try.pinned (OpenSpec.ofChange fnNotPlainFirstFlagIsFirstUnplainByteSpec)

/-- ITS FALSE NEIGHBOUR: 'it returns false'. Refute it at one input. -/
def fnNotPlainFirstFlagIsFirstUnplainByteWrong : ChangeSpec := { name := "fnNotPlainFirstFlagIsFirstUnplainByte", fn := fun _ => fun
  | [d] => { results := [.lit (.bool false)], args := [d] }
  | _ => none }
def FnNotPlainFirstFlagIsFirstUnplainByteWrongFalsely : Prop := fnNotPlainFirstFlagIsFirstUnplainByteRow.holds Try.pinned (OpenSpec.ofChange fnNotPlainFirstFlagIsFirstUnplainByteWrong)

end Rows
end Go.Proofs.Qxb6000997a
