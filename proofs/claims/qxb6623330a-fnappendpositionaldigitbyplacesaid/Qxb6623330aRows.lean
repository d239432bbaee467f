/-
  No cell of these rows narrows 'for every input' (looked for: loops, veiled, ifaces, maps, wideKeys, modest, calm, conditions, laid).
  DERIVED. THE GIVEN ROWS OF THIS SEAT. 1 by the template 'for every input the law returns true; each argument reads behind the call as it read before'; 0 by the template 'total and deterministic' (their statements: Qxb6623330aTotals.lean).
  GIVEN WITH THE SEED: the statements are not yours to turn. If you find one false, say at which input.
  Laid BY PROGRAM, IN A SANDBOX (cutbox-rows.mjs): the forced cells as the released guide's own fill.sh prints them over the translation 04248cf0aefb8e00… (all of the seat's roots in one cut). By AI agents, Wed Nov 11 2026. No macro, syntax, notation, axiom, sorry.
-/
import Derived.Test.Qxb6623330aChecked
import GoSem.Claim
import GoSem.ClaimJoined
import GoSem.ClaimMapViews
import Derived.JoinedTies
import Derived.KernelRfl
namespace Go.Proofs.Qxb6623330a
/- THE CELL 'sum', in the pinned program and in every row, IS THE sha256 OF THE DUMP (.gsa) THAT Qxb6623330aProg.lean LOADS. Nothing in Lean hashes anything: it is a label: what it is worth is what the hold of that sum in a sandbox is worth. -/
noncomputable def Try.pinned : Pinned := { name := "qxb6623330a", sum := "04248cf0aefb8e0048b6d35cdff46ae4005c9e604d75f0cd9889153c31a707ff", checked := Try.checked }
namespace Rows
def none {H : Type} : Left H := { results := [], args := [] }

/-- 'zzlaws_root_b1.FnAppendPositionalDigitByPlace': WHATEVER THE INPUT: true; the input reads as it did. -/
def fnAppendPositionalDigitByPlaceSpec : ChangeSpec := { name := "fnAppendPositionalDigitByPlace", fn := fun _ => fun
  | [d1, d2, d3, d4, d5, d6] => { results := [.lit (.bool true)], args := [d1, d2, d3, d4, d5, d6] }
  | _ => none }
def fnAppendPositionalDigitByPlaceRow : OpenClaim := { program := "qxb6623330a", sum := "04248cf0aefb8e0048b6d35cdff46ae4005c9e604d75f0cd9889153c31a707ff", func := "example.com/rowsight/rowsight/zzlaws_root_b1.FnAppendPositionalDigitByPlace", spec := "fnAppendPositionalDigitByPlace", apart := false }
def FnAppendPositionalDigitByPlaceSaid : Prop := fnAppendPositionalDigitByPlaceRow.holds Try.pinned (OpenSpec.ofChange fnAppendPositionalDigitByPlaceSpec)

/-- ITS FALSE NEIGHBOUR: 'it returns false'. Refute it at one input. -/
def fnAppendPositionalDigitByPlaceWrong : ChangeSpec := { name := "fnAppendPositionalDigitByPlace", fn := fun _ => fun
  | [d1, d2, d3, d4, d5, d6] => { results := [.lit (.bool false)], args := [d1, d2, d3, d4, d5, d6] }
  | _ => none }
def FnAppendPositionalDigitByPlaceWrongFalsely : Prop := fnAppendPositionalDigitByPlaceRow.holds Try.pinned (OpenSpec.ofChange fnAppendPositionalDigitByPlaceWrong)

end Rows
end Go.Proofs.Qxb6623330a
