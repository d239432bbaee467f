/-
  No cell of these rows narrows 'for every input' (looked for: loops, veiled, ifaces, maps, wideKeys, modest, calm, conditions, laid).
  DERIVED. THE GIVEN ROWS OF THIS SEAT. 1 by the template 'for every input the law returns true; each argument reads behind the call as it read before'; 0 by the template 'total and deterministic' (their statements: Qxb6623354aTotals.lean).
  GIVEN WITH THE SEED: the statements are not yours to turn. If you find one false, say at which input.
  Laid BY PROGRAM, IN A SANDBOX (cutbox-rows.mjs): the forced cells as the released guide's own fill.sh prints them over the translation f00fe31620596d9f… (all of the seat's roots in one cut). By AI agents, Wed Nov 11 2026. No macro, syntax, notation, axiom, sorry.
-/
import Derived.Test.Qxb6623354aChecked
import GoSem.Claim
import GoSem.ClaimJoined
import GoSem.ClaimMapViews
import Derived.JoinedTies
import Derived.KernelRfl
namespace Go.Proofs.Qxb6623354a
/- THE CELL 'sum', in the pinned program and in every row, IS THE sha256 OF THE DUMP (.gsa) THAT Qxb6623354aProg.lean LOADS. Nothing in Lean hashes anything: it is a label: what it is worth is what the hold of that sum in a sandbox is worth. -/
noncomputable def Try.pinned : Pinned := { name := "qxb6623354a", sum := "f00fe31620596d9f2ebdce23ed5b4188d671895d84d12c16df530cbc80e30541", checked := Try.checked }
namespace Rows
def none {H : Type} : Left H := { results := [], args := [] }

/-- 'zzlaws_root_b1.FnCmpLimbsSignOfDifferenceAntisymmetric': WHATEVER THE INPUT: true; the input reads as it did. -/
def fnCmpLimbsSignOfDifferenceAntisymmetricSpec : ChangeSpec := { name := "fnCmpLimbsSignOfDifferenceAntisymmetric", fn := fun _ => fun
  | [d1, d2] => { results := [.lit (.bool true)], args := [d1, d2] }
  | _ => none }
def fnCmpLimbsSignOfDifferenceAntisymmetricRow : OpenClaim := { program := "qxb6623354a", sum := "f00fe31620596d9f2ebdce23ed5b4188d671895d84d12c16df530cbc80e30541", func := "example.com/backstop/backstop/zzlaws_root_b1.FnCmpLimbsSignOfDifferenceAntisymmetric", spec := "fnCmpLimbsSignOfDifferenceAntisymmetric", apart := false }
def FnCmpLimbsSignOfDifferenceAntisymmetricSaid : Prop := fnCmpLimbsSignOfDifferenceAntisymmetricRow.holds Try.pinned (OpenSpec.ofChange fnCmpLimbsSignOfDifferenceAntisymmetricSpec)

/-- ITS FALSE NEIGHBOUR: 'it returns false'. Refute it at one input. -/
def fnCmpLimbsSignOfDifferenceAntisymmetricWrong : ChangeSpec := { name := "fnCmpLimbsSignOfDifferenceAntisymmetric", fn := fun _ => fun
  | [d1, d2] => { results := [.lit (.bool false)], args := [d1, d2] }
  | _ => none }
def FnCmpLimbsSignOfDifferenceAntisymmetricWrongFalsely : Prop := fnCmpLimbsSignOfDifferenceAntisymmetricRow.holds Try.pinned (OpenSpec.ofChange fnCmpLimbsSignOfDifferenceAntisymmetricWrong)

end Rows
end Go.Proofs.Qxb6623354a
