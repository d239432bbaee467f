/-
  No cell of these rows narrows 'for every input' (looked for: loops, veiled, ifaces, maps, wideKeys, modest, calm, conditions, laid).
  DERIVED. THE GIVEN ROWS OF THIS SEAT. 2 by the template 'for every input the law returns true; each argument reads behind the call as it read before'; 0 by the template 'total and deterministic' (their statements: Qxb6623383aTotals.lean).
  GIVEN WITH THE SEED: the statements are not yours to turn. If you find one false, say at which input.
  Laid BY PROGRAM, IN A SANDBOX (cutbox-rows.mjs): the forced cells as the released guide's own fill.sh prints them over the translation 0fb114c7758642dc… (all of the seat's roots in one cut). By AI agents, Wed Nov 11 2026. No macro, syntax, notation, axiom, sorry.
-/
import Derived.Test.Qxb6623383aChecked
import GoSem.Claim
import GoSem.ClaimJoined
import GoSem.ClaimMapViews
import Derived.JoinedTies
import Derived.KernelRfl
namespace Go.Proofs.Qxb6623383a
/- THE CELL 'sum', in the pinned program and in every row, IS THE sha256 OF THE DUMP (.gsa) THAT Qxb6623383aProg.lean LOADS. Nothing in Lean hashes anything: it is a label: what it is worth is what the hold of that sum in a sandbox is worth. -/
noncomputable def Try.pinned : Pinned := { name := "qxb6623383a", sum := "0fb114c7758642dca0d1ccec98d35ffb0105e5656651606715ec661b9fe8cc57", checked := Try.checked }
namespace Rows
def none {H : Type} : Left H := { results := [], args := [] }

/-- 'zzlaws_internal_peer_b1.FnMajorityLeastQuorum': WHATEVER THE INPUT: true; the input reads as it did. -/
def fnMajorityLeastQuorumSpec : ChangeSpec := { name := "fnMajorityLeastQuorum", fn := fun _ => fun
  | [d1, d2] => { results := [.lit (.bool true)], args := [d1, d2] }
  | _ => none }
def fnMajorityLeastQuorumRow : OpenClaim := { program := "qxb6623383a", sum := "0fb114c7758642dca0d1ccec98d35ffb0105e5656651606715ec661b9fe8cc57", func := "example.com/quorumkeep/quorumkeep/zzlaws_internal_peer_b1.FnMajorityLeastQuorum", spec := "fnMajorityLeastQuorum", apart := false }
def FnMajorityLeastQuorumSaid : Prop := fnMajorityLeastQuorumRow.holds Try.pinned (OpenSpec.ofChange fnMajorityLeastQuorumSpec)

/-- ITS FALSE NEIGHBOUR: 'it returns false'. Refute it at one input. -/
def fnMajorityLeastQuorumWrong : ChangeSpec := { name := "fnMajorityLeastQuorum", fn := fun _ => fun
  | [d1, d2] => { results := [.lit (.bool false)], args := [d1, d2] }
  | _ => none }
def FnMajorityLeastQuorumWrongFalsely : Prop := fnMajorityLeastQuorumRow.holds Try.pinned (OpenSpec.ofChange fnMajorityLeastQuorumWrong)

/-- 'zzlaws_internal_peer_b1.FnMajorityAddSeat': WHATEVER THE INPUT: true; the input reads as it did. -/
def fnMajorityAddSeatSpec : ChangeSpec := { name := "fnMajorityAddSeat", fn := fun _ => fun
  | [d1, d2, d3, d4] => { results := [.lit (.bool true)], args := [d1, d2, d3, d4] }
  | _ => none }
def fnMajorityAddSeatRow : OpenClaim := { program := "qxb6623383a", sum := "0fb114c7758642dca0d1ccec98d35ffb0105e5656651606715ec661b9fe8cc57", func := "example.com/quorumkeep/quorumkeep/zzlaws_internal_peer_b1.FnMajorityAddSeat", spec := "fnMajorityAddSeat", apart := false }
def FnMajorityAddSeatSaid : Prop := fnMajorityAddSeatRow.holds Try.pinned (OpenSpec.ofChange fnMajorityAddSeatSpec)

/-- ITS FALSE NEIGHBOUR: 'it returns false'. Refute it at one input. -/
def fnMajorityAddSeatWrong : ChangeSpec := { name := "fnMajorityAddSeat", fn := fun _ => fun
  | [d1, d2, d3, d4] => { results := [.lit (.bool false)], args := [d1, d2, d3, d4] }
  | _ => none }
def FnMajorityAddSeatWrongFalsely : Prop := fnMajorityAddSeatRow.holds Try.pinned (OpenSpec.ofChange fnMajorityAddSeatWrong)

end Rows
end Go.Proofs.Qxb6623383a
