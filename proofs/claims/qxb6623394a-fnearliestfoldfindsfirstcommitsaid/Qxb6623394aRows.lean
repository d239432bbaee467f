/-
  No cell of these rows narrows 'for every input' (looked for: loops, veiled, ifaces, maps, wideKeys, modest, calm, conditions, laid).
  DERIVED. THE GIVEN ROWS OF THIS SEAT. 2 by the template 'for every input the law returns true; each argument reads behind the call as it read before'; 0 by the template 'total and deterministic' (their statements: Qxb6623394aTotals.lean).
  GIVEN WITH THE SEED: the statements are not yours to turn. If you find one false, say at which input.
  Laid BY PROGRAM, IN A SANDBOX (cutbox-rows.mjs): the forced cells as the released guide's own fill.sh prints them over the translation 34724c5af1730f7d… (all of the seat's roots in one cut). By AI agents, Wed Nov 11 2026. No macro, syntax, notation, axiom, sorry.
-/
import Derived.Test.Qxb6623394aChecked
import GoSem.Claim
import GoSem.ClaimJoined
import GoSem.ClaimMapViews
import Derived.JoinedTies
import Derived.KernelRfl
namespace Go.Proofs.Qxb6623394a
/- THE CELL 'sum', in the pinned program and in every row, IS THE sha256 OF THE DUMP (.gsa) THAT Qxb6623394aProg.lean LOADS. Nothing in Lean hashes anything: it is a label: what it is worth is what the hold of that sum in a sandbox is worth. -/
noncomputable def Try.pinned : Pinned := { name := "qxb6623394a", sum := "34724c5af1730f7d1bc1ce032c985a08efca46badeacc3f40007c9299faef87b", checked := Try.checked }
namespace Rows
def none {H : Type} : Left H := { results := [], args := [] }

/-- 'zzlaws_root_b1.FnEarliestIsEarlierNonzeroCommit': WHATEVER THE INPUT: true; the input reads as it did. -/
def fnEarliestIsEarlierNonzeroCommitSpec : ChangeSpec := { name := "fnEarliestIsEarlierNonzeroCommit", fn := fun _ => fun
  | [d1, d2] => { results := [.lit (.bool true)], args := [d1, d2] }
  | _ => none }
def fnEarliestIsEarlierNonzeroCommitRow : OpenClaim := { program := "qxb6623394a", sum := "34724c5af1730f7d1bc1ce032c985a08efca46badeacc3f40007c9299faef87b", func := "example.com/fourfold/fourfold/zzlaws_root_b1.FnEarliestIsEarlierNonzeroCommit", spec := "fnEarliestIsEarlierNonzeroCommit", apart := false }
def FnEarliestIsEarlierNonzeroCommitSaid : Prop := fnEarliestIsEarlierNonzeroCommitRow.holds Try.pinned (OpenSpec.ofChange fnEarliestIsEarlierNonzeroCommitSpec)

/-- ITS FALSE NEIGHBOUR: 'it returns false'. Refute it at one input. -/
def fnEarliestIsEarlierNonzeroCommitWrong : ChangeSpec := { name := "fnEarliestIsEarlierNonzeroCommit", fn := fun _ => fun
  | [d1, d2] => { results := [.lit (.bool false)], args := [d1, d2] }
  | _ => none }
def FnEarliestIsEarlierNonzeroCommitWrongFalsely : Prop := fnEarliestIsEarlierNonzeroCommitRow.holds Try.pinned (OpenSpec.ofChange fnEarliestIsEarlierNonzeroCommitWrong)

/-- 'zzlaws_root_b1.FnEarliestFoldFindsFirstCommit': WHATEVER THE INPUT: true; the input reads as it did. -/
def fnEarliestFoldFindsFirstCommitSpec : ChangeSpec := { name := "fnEarliestFoldFindsFirstCommit", fn := fun _ => fun
  | [d] => { results := [.lit (.bool true)], args := [d] }
  | _ => none }
def fnEarliestFoldFindsFirstCommitRow : OpenClaim := { program := "qxb6623394a", sum := "34724c5af1730f7d1bc1ce032c985a08efca46badeacc3f40007c9299faef87b", func := "example.com/fourfold/fourfold/zzlaws_root_b1.FnEarliestFoldFindsFirstCommit", spec := "fnEarliestFoldFindsFirstCommit", apart := false }
def FnEarliestFoldFindsFirstCommitSaid : Prop := fnEarliestFoldFindsFirstCommitRow.holds Try.pinned (OpenSpec.ofChange fnEarliestFoldFindsFirstCommitSpec)

/-- ITS FALSE NEIGHBOUR: 'it returns false'. Refute it at one input. -/
def fnEarliestFoldFindsFirstCommitWrong : ChangeSpec := { name := "fnEarliestFoldFindsFirstCommit", fn := fun _ => fun
  | [d] => { results := [.lit (.bool false)], args := [d] }
  | _ => none }
def FnEarliestFoldFindsFirstCommitWrongFalsely : Prop := fnEarliestFoldFindsFirstCommitRow.holds Try.pinned (OpenSpec.ofChange fnEarliestFoldFindsFirstCommitWrong)

end Rows
end Go.Proofs.Qxb6623394a
