/-
  No cell of these rows narrows 'for every input' (looked for: loops, veiled, ifaces, maps, wideKeys, modest, calm, conditions, laid).
  DERIVED. THE GIVEN ROWS OF THIS SEAT. 4 by the template 'for every input the law returns true; each argument reads behind the call as it read before'; 0 by the template 'total and deterministic' (their statements: Qxb6603960aTotals.lean).
  GIVEN WITH THE SEED: the statements are not yours to turn. If you find one false, say at which input.
  Laid BY PROGRAM, IN A SANDBOX (cutbox-rows.mjs): the forced cells as the released guide's own fill.sh prints them over the translation fca91fc50498802b… (all of the seat's roots in one cut). By AI agents, Wed Nov 11 2026. No macro, syntax, notation, axiom, sorry.
-/
import Derived.Test.Qxb6603960aChecked
import GoSem.Claim
import GoSem.ClaimJoined
import GoSem.ClaimMapViews
import Derived.JoinedTies
import Derived.KernelRfl
namespace Go.Proofs.Qxb6603960a
/- THE CELL 'sum', in the pinned program and in every row, IS THE sha256 OF THE DUMP (.gsa) THAT Qxb6603960aProg.lean LOADS. Nothing in Lean hashes anything: it is a label: what it is worth is what the hold of that sum in a sandbox is worth. -/
noncomputable def Try.pinned : Pinned := { name := "qxb6603960a", sum := "fca91fc50498802b38842b168a02dcd3b22bf66c3e1573c8593116e3681f2815", checked := Try.checked }
namespace Rows
def none {H : Type} : Left H := { results := [], args := [] }

/-- 'zzlaws_pkg_digest_b1.FnWriteQuotedDecodesBack': WHATEVER THE INPUT: true; the input reads as it did. -/
def fnWriteQuotedDecodesBackSpec : ChangeSpec := { name := "fnWriteQuotedDecodesBack", fn := fun _ => fun
  | [d1, d2] => { results := [.lit (.bool true)], args := [d1, d2] }
  | _ => none }
def fnWriteQuotedDecodesBackRow : OpenClaim := { program := "qxb6603960a", sum := "fca91fc50498802b38842b168a02dcd3b22bf66c3e1573c8593116e3681f2815", func := "example.com/slim-roster/slim-roster/zzlaws_pkg_digest_b1.FnWriteQuotedDecodesBack", spec := "fnWriteQuotedDecodesBack", inPlace := ["internal/abi.NoEscape"], apart := false }
def FnWriteQuotedDecodesBackSaid : Prop := fnWriteQuotedDecodesBackRow.holds Try.pinned (OpenSpec.ofChange fnWriteQuotedDecodesBackSpec)

/-- ITS FALSE NEIGHBOUR: 'it returns false'. Refute it at one input. -/
def fnWriteQuotedDecodesBackWrong : ChangeSpec := { name := "fnWriteQuotedDecodesBack", fn := fun _ => fun
  | [d1, d2] => { results := [.lit (.bool false)], args := [d1, d2] }
  | _ => none }
def FnWriteQuotedDecodesBackWrongFalsely : Prop := fnWriteQuotedDecodesBackRow.holds Try.pinned (OpenSpec.ofChange fnWriteQuotedDecodesBackWrong)

/-- 'zzlaws_pkg_digest_b1.FnWriteQuotedSplitsOverConcat': WHATEVER THE INPUT: true; the input reads as it did. -/
def fnWriteQuotedSplitsOverConcatSpec : ChangeSpec := { name := "fnWriteQuotedSplitsOverConcat", fn := fun _ => fun
  | [d1, d2] => { results := [.lit (.bool true)], args := [d1, d2] }
  | _ => none }
def fnWriteQuotedSplitsOverConcatRow : OpenClaim := { program := "qxb6603960a", sum := "fca91fc50498802b38842b168a02dcd3b22bf66c3e1573c8593116e3681f2815", func := "example.com/slim-roster/slim-roster/zzlaws_pkg_digest_b1.FnWriteQuotedSplitsOverConcat", spec := "fnWriteQuotedSplitsOverConcat", inPlace := ["internal/abi.NoEscape"], apart := false }
def FnWriteQuotedSplitsOverConcatSaid : Prop := fnWriteQuotedSplitsOverConcatRow.holds Try.pinned (OpenSpec.ofChange fnWriteQuotedSplitsOverConcatSpec)

/-- ITS FALSE NEIGHBOUR: 'it returns false'. Refute it at one input. -/
def fnWriteQuotedSplitsOverConcatWrong : ChangeSpec := { name := "fnWriteQuotedSplitsOverConcat", fn := fun _ => fun
  | [d1, d2] => { results := [.lit (.bool false)], args := [d1, d2] }
  | _ => none }
def FnWriteQuotedSplitsOverConcatWrongFalsely : Prop := fnWriteQuotedSplitsOverConcatRow.holds Try.pinned (OpenSpec.ofChange fnWriteQuotedSplitsOverConcatWrong)

/-- 'zzlaws_pkg_digest_b1.FnHeaderMatchesSpec': WHATEVER THE INPUT: true; the input reads as it did. -/
def fnHeaderMatchesSpecSpec : ChangeSpec := { name := "fnHeaderMatchesSpec", fn := fun _ => fun
  | [d1, d2, d3, d4, d5, d6, d7, d8, d9] => { results := [.lit (.bool true)], args := [d1, d2, d3, d4, d5, d6, d7, d8, d9] }
  | _ => none }
def fnHeaderMatchesSpecRow : OpenClaim := { program := "qxb6603960a", sum := "fca91fc50498802b38842b168a02dcd3b22bf66c3e1573c8593116e3681f2815", func := "example.com/slim-roster/slim-roster/zzlaws_pkg_digest_b1.FnHeaderMatchesSpec", spec := "fnHeaderMatchesSpec", inPlace := ["internal/abi.NoEscape"], apart := false }
def FnHeaderMatchesSpecSaid : Prop := fnHeaderMatchesSpecRow.holds Try.pinned (OpenSpec.ofChange fnHeaderMatchesSpecSpec)

/-- ITS FALSE NEIGHBOUR: 'it returns false'. Refute it at one input. -/
def fnHeaderMatchesSpecWrong : ChangeSpec := { name := "fnHeaderMatchesSpec", fn := fun _ => fun
  | [d1, d2, d3, d4, d5, d6, d7, d8, d9] => { results := [.lit (.bool false)], args := [d1, d2, d3, d4, d5, d6, d7, d8, d9] }
  | _ => none }
def FnHeaderMatchesSpecWrongFalsely : Prop := fnHeaderMatchesSpecRow.holds Try.pinned (OpenSpec.ofChange fnHeaderMatchesSpecWrong)

/-- 'zzlaws_pkg_digest_b1.FnHeaderParsesBack': WHATEVER THE INPUT: true; the input reads as it did. -/
def fnHeaderParsesBackSpec : ChangeSpec := { name := "fnHeaderParsesBack", fn := fun _ => fun
  | [d1, d2, d3, d4, d5, d6, d7, d8, d9] => { results := [.lit (.bool true)], args := [d1, d2, d3, d4, d5, d6, d7, d8, d9] }
  | _ => none }
def fnHeaderParsesBackRow : OpenClaim := { program := "qxb6603960a", sum := "fca91fc50498802b38842b168a02dcd3b22bf66c3e1573c8593116e3681f2815", func := "example.com/slim-roster/slim-roster/zzlaws_pkg_digest_b1.FnHeaderParsesBack", spec := "fnHeaderParsesBack", inPlace := ["internal/abi.NoEscape"], apart := false }
def FnHeaderParsesBackSaid : Prop := fnHeaderParsesBackRow.holds Try.pinned (OpenSpec.ofChange fnHeaderParsesBackSpec)

/-- ITS FALSE NEIGHBOUR: 'it returns false'. Refute it at one input. -/
def fnHeaderParsesBackWrong : ChangeSpec := { name := "fnHeaderParsesBack", fn := fun _ => fun
  | [d1, d2, d3, d4, d5, d6, d7, d8, d9] => { results := [.lit (.bool false)], args := [d1, d2, d3, d4, d5, d6, d7, d8, d9] }
  | _ => none }
def FnHeaderParsesBackWrongFalsely : Prop := fnHeaderParsesBackRow.holds Try.pinned (OpenSpec.ofChange fnHeaderParsesBackWrong)

end Rows
end Go.Proofs.Qxb6603960a
