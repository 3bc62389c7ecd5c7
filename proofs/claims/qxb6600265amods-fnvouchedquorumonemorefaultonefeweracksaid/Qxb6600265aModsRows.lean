/-
  No cell of these rows narrows 'for every input' (looked for: loops, veiled, ifaces, maps, wideKeys, modest, calm, conditions, laid).
  DERIVED. THE GIVEN ROWS OF THIS SEAT. 2 by the template 'for every input the law returns true; each argument reads behind the call as it read before'; 0 by the template 'total and deterministic' (their statements: Qxb6600265aModsTotals.lean).
  GIVEN WITH THE SEED: the statements are not yours to turn. If you find one false, say at which input.
  Laid BY PROGRAM, IN A SANDBOX (cutbox-rows.mjs): the forced cells as the released guide's own fill.sh prints them over the translation 3cb71476644d4236… (all of the seat's roots in one cut). By AI agents, Wed Nov 11 2026. No macro, syntax, notation, axiom, sorry.
-/
import Derived.Test.Qxb6600265aModsChecked
import GoSem.Claim
import GoSem.ClaimJoined
import GoSem.ClaimMapViews
import Derived.JoinedTies
import Derived.KernelRfl
namespace Go.Proofs.Qxb6600265aMods
/- THE CELL 'sum', in the pinned program and in every row, IS THE sha256 OF THE DUMP (.gsa) THAT Qxb6600265aModsProg.lean LOADS. Nothing in Lean hashes anything: it is a label: what it is worth is what the hold of that sum in a sandbox is worth. -/
noncomputable def Trym.pinned : Pinned := { name := "qxb6600265amods", sum := "3cb71476644d4236ad4d52cc6cf0963294790f212e1556bb9e3b3341941d145d", checked := Trym.checked }
namespace Rows
def none {H : Type} : Left H := { results := [], args := [] }

/-- 'zzlaws_internal_commit_b1.FnVouchedQuorumNeedIgnoresListingAndOrder': WHATEVER THE INPUT: true; the input reads as it did. -/
def fnVouchedQuorumNeedIgnoresListingAndOrderSpec : ChangeSpec := { name := "fnVouchedQuorumNeedIgnoresListingAndOrder", fn := fun _ => fun
  | [d1, d2, d3] => { results := [.lit (.bool true)], args := [d1, d2, d3] }
  | _ => none }
def fnVouchedQuorumNeedIgnoresListingAndOrderRow : OpenClaim := { program := "qxb6600265amods", sum := "3cb71476644d4236ad4d52cc6cf0963294790f212e1556bb9e3b3341941d145d", func := "example.com/compromiso/compromiso/zzlaws_internal_commit_b1.FnVouchedQuorumNeedIgnoresListingAndOrder", spec := "fnVouchedQuorumNeedIgnoresListingAndOrder", make := .lifted ["publicsums"], apart := false }
def FnVouchedQuorumNeedIgnoresListingAndOrderSaid : Prop := fnVouchedQuorumNeedIgnoresListingAndOrderRow.holds Trym.pinned (OpenSpec.ofChange fnVouchedQuorumNeedIgnoresListingAndOrderSpec)

/-- ITS FALSE NEIGHBOUR: 'it returns false'. Refute it at one input. -/
def fnVouchedQuorumNeedIgnoresListingAndOrderWrong : ChangeSpec := { name := "fnVouchedQuorumNeedIgnoresListingAndOrder", fn := fun _ => fun
  | [d1, d2, d3] => { results := [.lit (.bool false)], args := [d1, d2, d3] }
  | _ => none }
def FnVouchedQuorumNeedIgnoresListingAndOrderWrongFalsely : Prop := fnVouchedQuorumNeedIgnoresListingAndOrderRow.holds Trym.pinned (OpenSpec.ofChange fnVouchedQuorumNeedIgnoresListingAndOrderWrong)

/-- 'zzlaws_internal_commit_b1.FnVouchedQuorumOneMoreFaultOneFewerAck': WHATEVER THE INPUT: true; the input reads as it did. -/
def fnVouchedQuorumOneMoreFaultOneFewerAckSpec : ChangeSpec := { name := "fnVouchedQuorumOneMoreFaultOneFewerAck", fn := fun _ => fun
  | [d1, d2, d3] => { results := [.lit (.bool true)], args := [d1, d2, d3] }
  | _ => none }
def fnVouchedQuorumOneMoreFaultOneFewerAckRow : OpenClaim := { program := "qxb6600265amods", sum := "3cb71476644d4236ad4d52cc6cf0963294790f212e1556bb9e3b3341941d145d", func := "example.com/compromiso/compromiso/zzlaws_internal_commit_b1.FnVouchedQuorumOneMoreFaultOneFewerAck", spec := "fnVouchedQuorumOneMoreFaultOneFewerAck", make := .lifted ["publicsums"], apart := false }
def FnVouchedQuorumOneMoreFaultOneFewerAckSaid : Prop := fnVouchedQuorumOneMoreFaultOneFewerAckRow.holds Trym.pinned (OpenSpec.ofChange fnVouchedQuorumOneMoreFaultOneFewerAckSpec)

/-- ITS FALSE NEIGHBOUR: 'it returns false'. Refute it at one input. -/
def fnVouchedQuorumOneMoreFaultOneFewerAckWrong : ChangeSpec := { name := "fnVouchedQuorumOneMoreFaultOneFewerAck", fn := fun _ => fun
  | [d1, d2, d3] => { results := [.lit (.bool false)], args := [d1, d2, d3] }
  | _ => none }
def FnVouchedQuorumOneMoreFaultOneFewerAckWrongFalsely : Prop := fnVouchedQuorumOneMoreFaultOneFewerAckRow.holds Trym.pinned (OpenSpec.ofChange fnVouchedQuorumOneMoreFaultOneFewerAckWrong)

end Rows
end Go.Proofs.Qxb6600265aMods
