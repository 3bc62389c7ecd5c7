/-
  No cell of these rows narrows 'for every input' (looked for: loops, veiled, ifaces, maps, wideKeys, modest, calm, conditions, laid).
  DERIVED. THE GIVEN ROWS OF THIS SEAT. 3 by the template 'for every input the law returns true; each argument reads behind the call as it read before'; 0 by the template 'total and deterministic' (their statements: Qxb6600901aModsTotals.lean).
  GIVEN WITH THE SEED: the statements are not yours to turn. If you find one false, say at which input.
  Laid BY PROGRAM, IN A SANDBOX (cutbox-rows.mjs): the forced cells as the released guide's own fill.sh prints them over the translation 361879a413aa4bdf… (all of the seat's roots in one cut). By AI agents, Wed Nov 11 2026. No macro, syntax, notation, axiom, sorry.
-/
import Derived.Test.Qxb6600901aModsChecked
import GoSem.Claim
import GoSem.ClaimJoined
import GoSem.ClaimMapViews
import Derived.JoinedTies
import Derived.KernelRfl
namespace Go.Proofs.Qxb6600901aMods
/- THE CELL 'sum', in the pinned program and in every row, IS THE sha256 OF THE DUMP (.gsa) THAT Qxb6600901aModsProg.lean LOADS. Nothing in Lean hashes anything: it is a label: what it is worth is what the hold of that sum in a sandbox is worth. -/
noncomputable def Trym.pinned : Pinned := { name := "qxb6600901amods", sum := "361879a413aa4bdfceb6225e3d25297d227c70f337a1f90c1628c59a53315529", checked := Trym.checked }
namespace Rows
def none {H : Type} : Left H := { results := [], args := [] }

/-- 'zzlaws_server_b1.FnOrderedMatchesModel': WHATEVER THE INPUT: true; the input reads as it did. -/
def fnOrderedMatchesModelSpec : ChangeSpec := { name := "fnOrderedMatchesModel", fn := fun _ => fun
  | [d1, d2] => { results := [.lit (.bool true)], args := [d1, d2] }
  | _ => none }
def fnOrderedMatchesModelRow : OpenClaim := { program := "qxb6600901amods", sum := "361879a413aa4bdfceb6225e3d25297d227c70f337a1f90c1628c59a53315529", func := "example.com/hostwarden/hostwarden/zzlaws_server_b1.FnOrderedMatchesModel", spec := "fnOrderedMatchesModel", make := .lifted ["publicsums"], apart := false }
def FnOrderedMatchesModelSaid : Prop := fnOrderedMatchesModelRow.holds Trym.pinned (OpenSpec.ofChange fnOrderedMatchesModelSpec)

/-- ITS FALSE NEIGHBOUR: 'it returns false'. Refute it at one input. -/
def fnOrderedMatchesModelWrong : ChangeSpec := { name := "fnOrderedMatchesModel", fn := fun _ => fun
  | [d1, d2] => { results := [.lit (.bool false)], args := [d1, d2] }
  | _ => none }
def FnOrderedMatchesModelWrongFalsely : Prop := fnOrderedMatchesModelRow.holds Trym.pinned (OpenSpec.ofChange fnOrderedMatchesModelWrong)

/-- 'zzlaws_server_b1.FnOrderedIdempotent': WHATEVER THE INPUT: true; the input reads as it did. -/
def fnOrderedIdempotentSpec : ChangeSpec := { name := "fnOrderedIdempotent", fn := fun _ => fun
  | [d1, d2] => { results := [.lit (.bool true)], args := [d1, d2] }
  | _ => none }
def fnOrderedIdempotentRow : OpenClaim := { program := "qxb6600901amods", sum := "361879a413aa4bdfceb6225e3d25297d227c70f337a1f90c1628c59a53315529", func := "example.com/hostwarden/hostwarden/zzlaws_server_b1.FnOrderedIdempotent", spec := "fnOrderedIdempotent", make := .lifted ["publicsums"], apart := false }
def FnOrderedIdempotentSaid : Prop := fnOrderedIdempotentRow.holds Trym.pinned (OpenSpec.ofChange fnOrderedIdempotentSpec)

/-- ITS FALSE NEIGHBOUR: 'it returns false'. Refute it at one input. -/
def fnOrderedIdempotentWrong : ChangeSpec := { name := "fnOrderedIdempotent", fn := fun _ => fun
  | [d1, d2] => { results := [.lit (.bool false)], args := [d1, d2] }
  | _ => none }
def FnOrderedIdempotentWrongFalsely : Prop := fnOrderedIdempotentRow.holds Trym.pinned (OpenSpec.ofChange fnOrderedIdempotentWrong)

/-- 'zzlaws_server_b1.FnOrderedLaterRepeatInOrderChangesNothing': WHATEVER THE INPUT: true; the input reads as it did. -/
def fnOrderedLaterRepeatInOrderChangesNothingSpec : ChangeSpec := { name := "fnOrderedLaterRepeatInOrderChangesNothing", fn := fun _ => fun
  | [d1, d2, d3, d4] => { results := [.lit (.bool true)], args := [d1, d2, d3, d4] }
  | _ => none }
def fnOrderedLaterRepeatInOrderChangesNothingRow : OpenClaim := { program := "qxb6600901amods", sum := "361879a413aa4bdfceb6225e3d25297d227c70f337a1f90c1628c59a53315529", func := "example.com/hostwarden/hostwarden/zzlaws_server_b1.FnOrderedLaterRepeatInOrderChangesNothing", spec := "fnOrderedLaterRepeatInOrderChangesNothing", make := .lifted ["publicsums"], apart := false }
def FnOrderedLaterRepeatInOrderChangesNothingSaid : Prop := fnOrderedLaterRepeatInOrderChangesNothingRow.holds Trym.pinned (OpenSpec.ofChange fnOrderedLaterRepeatInOrderChangesNothingSpec)

/-- ITS FALSE NEIGHBOUR: 'it returns false'. Refute it at one input. -/
def fnOrderedLaterRepeatInOrderChangesNothingWrong : ChangeSpec := { name := "fnOrderedLaterRepeatInOrderChangesNothing", fn := fun _ => fun
  | [d1, d2, d3, d4] => { results := [.lit (.bool false)], args := [d1, d2, d3, d4] }
  | _ => none }
def FnOrderedLaterRepeatInOrderChangesNothingWrongFalsely : Prop := fnOrderedLaterRepeatInOrderChangesNothingRow.holds Trym.pinned (OpenSpec.ofChange fnOrderedLaterRepeatInOrderChangesNothingWrong)

end Rows
end Go.Proofs.Qxb6600901aMods
