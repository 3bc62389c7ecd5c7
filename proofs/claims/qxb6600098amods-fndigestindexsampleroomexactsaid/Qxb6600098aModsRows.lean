/-
  No cell of these rows narrows 'for every input' (looked for: loops, veiled, ifaces, maps, wideKeys, modest, calm, conditions, laid).
  DERIVED. THE GIVEN ROWS OF THIS SEAT. 3 by the template 'for every input the law returns true; each argument reads behind the call as it read before'; 0 by the template 'total and deterministic' (their statements: Qxb6600098aModsTotals.lean).
  GIVEN WITH THE SEED: the statements are not yours to turn. If you find one false, say at which input.
  Laid BY PROGRAM, IN A SANDBOX (cutbox-rows.mjs): the forced cells as the released guide's own fill.sh prints them over the translation 859aa2e097ced8a9… (all of the seat's roots in one cut). By AI agents, Wed Nov 11 2026. No macro, syntax, notation, axiom, sorry.
-/
import Derived.Test.Qxb6600098aModsChecked
import GoSem.Claim
import GoSem.ClaimJoined
import GoSem.ClaimMapViews
import Derived.JoinedTies
import Derived.KernelRfl
namespace Go.Proofs.Qxb6600098aMods
/- THE CELL 'sum', in the pinned program and in every row, IS THE sha256 OF THE DUMP (.gsa) THAT Qxb6600098aModsProg.lean LOADS. Nothing in Lean hashes anything: it is a label: what it is worth is what the hold of that sum in a sandbox is worth. -/
noncomputable def Trym.pinned : Pinned := { name := "qxb6600098amods", sum := "859aa2e097ced8a9c4159775d208d813b64cee9f6b3b8aecb66fabb6afb864f1", checked := Trym.checked }
namespace Rows
def none {H : Type} : Left H := { results := [], args := [] }

/-- 'zzlaws_internal_backend_b1.FnDigestIndexEmptyAndSmall': WHATEVER THE INPUT: true; the input reads as it did. -/
def fnDigestIndexEmptyAndSmallSpec : ChangeSpec := { name := "fnDigestIndexEmptyAndSmall", fn := fun _ => fun
  | [d1, d2, d3] => { results := [.lit (.bool true)], args := [d1, d2, d3] }
  | _ => none }
def fnDigestIndexEmptyAndSmallRow : OpenClaim := { program := "qxb6600098amods", sum := "859aa2e097ced8a9c4159775d208d813b64cee9f6b3b8aecb66fabb6afb864f1", func := "example.com/varve/varve/zzlaws_internal_backend_b1.FnDigestIndexEmptyAndSmall", spec := "fnDigestIndexEmptyAndSmall", make := .lifted ["publicsums"], apart := false }
def FnDigestIndexEmptyAndSmallSaid : Prop := fnDigestIndexEmptyAndSmallRow.holds Trym.pinned (OpenSpec.ofChange fnDigestIndexEmptyAndSmallSpec)

/-- ITS FALSE NEIGHBOUR: 'it returns false'. Refute it at one input. -/
def fnDigestIndexEmptyAndSmallWrong : ChangeSpec := { name := "fnDigestIndexEmptyAndSmall", fn := fun _ => fun
  | [d1, d2, d3] => { results := [.lit (.bool false)], args := [d1, d2, d3] }
  | _ => none }
def FnDigestIndexEmptyAndSmallWrongFalsely : Prop := fnDigestIndexEmptyAndSmallRow.holds Trym.pinned (OpenSpec.ofChange fnDigestIndexEmptyAndSmallWrong)

/-- 'zzlaws_internal_backend_b1.FnDigestIndexSampleRoomExact': WHATEVER THE INPUT: true; the input reads as it did. -/
def fnDigestIndexSampleRoomExactSpec : ChangeSpec := { name := "fnDigestIndexSampleRoomExact", fn := fun _ => fun
  | [d1, d2, d3] => { results := [.lit (.bool true)], args := [d1, d2, d3] }
  | _ => none }
def fnDigestIndexSampleRoomExactRow : OpenClaim := { program := "qxb6600098amods", sum := "859aa2e097ced8a9c4159775d208d813b64cee9f6b3b8aecb66fabb6afb864f1", func := "example.com/varve/varve/zzlaws_internal_backend_b1.FnDigestIndexSampleRoomExact", spec := "fnDigestIndexSampleRoomExact", make := .lifted ["publicsums"], apart := false }
def FnDigestIndexSampleRoomExactSaid : Prop := fnDigestIndexSampleRoomExactRow.holds Trym.pinned (OpenSpec.ofChange fnDigestIndexSampleRoomExactSpec)

/-- ITS FALSE NEIGHBOUR: 'it returns false'. Refute it at one input. -/
def fnDigestIndexSampleRoomExactWrong : ChangeSpec := { name := "fnDigestIndexSampleRoomExact", fn := fun _ => fun
  | [d1, d2, d3] => { results := [.lit (.bool false)], args := [d1, d2, d3] }
  | _ => none }
def FnDigestIndexSampleRoomExactWrongFalsely : Prop := fnDigestIndexSampleRoomExactRow.holds Trym.pinned (OpenSpec.ofChange fnDigestIndexSampleRoomExactWrong)

/-- 'zzlaws_internal_backend_b1.FnDigestIndexSizesMonotoneAndPlaceFree': WHATEVER THE INPUT: true; the input reads as it did. -/
def fnDigestIndexSizesMonotoneAndPlaceFreeSpec : ChangeSpec := { name := "fnDigestIndexSizesMonotoneAndPlaceFree", fn := fun _ => fun
  | [d1, d2, d3, d4, d5, d6] => { results := [.lit (.bool true)], args := [d1, d2, d3, d4, d5, d6] }
  | _ => none }
def fnDigestIndexSizesMonotoneAndPlaceFreeRow : OpenClaim := { program := "qxb6600098amods", sum := "859aa2e097ced8a9c4159775d208d813b64cee9f6b3b8aecb66fabb6afb864f1", func := "example.com/varve/varve/zzlaws_internal_backend_b1.FnDigestIndexSizesMonotoneAndPlaceFree", spec := "fnDigestIndexSizesMonotoneAndPlaceFree", make := .lifted ["publicsums"], apart := false }
def FnDigestIndexSizesMonotoneAndPlaceFreeSaid : Prop := fnDigestIndexSizesMonotoneAndPlaceFreeRow.holds Trym.pinned (OpenSpec.ofChange fnDigestIndexSizesMonotoneAndPlaceFreeSpec)

/-- ITS FALSE NEIGHBOUR: 'it returns false'. Refute it at one input. -/
def fnDigestIndexSizesMonotoneAndPlaceFreeWrong : ChangeSpec := { name := "fnDigestIndexSizesMonotoneAndPlaceFree", fn := fun _ => fun
  | [d1, d2, d3, d4, d5, d6] => { results := [.lit (.bool false)], args := [d1, d2, d3, d4, d5, d6] }
  | _ => none }
def FnDigestIndexSizesMonotoneAndPlaceFreeWrongFalsely : Prop := fnDigestIndexSizesMonotoneAndPlaceFreeRow.holds Trym.pinned (OpenSpec.ofChange fnDigestIndexSizesMonotoneAndPlaceFreeWrong)

end Rows
end Go.Proofs.Qxb6600098aMods
