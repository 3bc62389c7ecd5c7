/-
  No cell of these rows narrows 'for every input' (looked for: loops, veiled, ifaces, maps, wideKeys, modest, calm, conditions, laid).
  DERIVED. THE GIVEN ROWS OF THIS SEAT. 6 by the template 'for every input the law returns true; each argument reads behind the call as it read before'; 0 by the template 'total and deterministic' (their statements: Qxb6600514aModsTotals.lean).
  GIVEN WITH THE SEED: the statements are not yours to turn. If you find one false, say at which input.
  Laid BY PROGRAM, IN A SANDBOX (cutbox-rows.mjs): the forced cells as the released guide's own fill.sh prints them over the translation fde31c8d75f8a659… (all of the seat's roots in one cut). By AI agents, Wed Nov 11 2026. No macro, syntax, notation, axiom, sorry.
-/
import Derived.Test.Qxb6600514aModsChecked
import GoSem.Claim
import GoSem.ClaimJoined
import GoSem.ClaimMapViews
import Derived.JoinedTies
import Derived.KernelRfl
namespace Go.Proofs.Qxb6600514aMods
/- THE CELL 'sum', in the pinned program and in every row, IS THE sha256 OF THE DUMP (.gsa) THAT Qxb6600514aModsProg.lean LOADS. Nothing in Lean hashes anything: it is a label: what it is worth is what the hold of that sum in a sandbox is worth. -/
noncomputable def Trym.pinned : Pinned := { name := "qxb6600514amods", sum := "fde31c8d75f8a659a933cf25dd0a8989c9119c622481ca378e74e425abd952b3", checked := Trym.checked }
namespace Rows
def none {H : Type} : Left H := { results := [], args := [] }

/-- 'zzlaws_pkg_shape_b1.FnArgumentsCountsRunStarts': WHATEVER THE INPUT: true; the input reads as it did. -/
def fnArgumentsCountsRunStartsSpec : ChangeSpec := { name := "fnArgumentsCountsRunStarts", fn := fun _ => fun
  | [d] => { results := [.lit (.bool true)], args := [d] }
  | _ => none }
def fnArgumentsCountsRunStartsRow : OpenClaim := { program := "qxb6600514amods", sum := "fde31c8d75f8a659a933cf25dd0a8989c9119c622481ca378e74e425abd952b3", func := "example.com/nab/nab/zzlaws_pkg_shape_b1.FnArgumentsCountsRunStarts", spec := "fnArgumentsCountsRunStarts", inPlace := ["internal/bytealg.IndexByteString", "internal/bytealg.IndexString"], named := ["internal/bytealg.MaxLen"], make := .lifted ["publicsums"], apart := false }
def FnArgumentsCountsRunStartsSaid : Prop := fnArgumentsCountsRunStartsRow.holds Trym.pinned (OpenSpec.ofChange fnArgumentsCountsRunStartsSpec)

/-- ITS FALSE NEIGHBOUR: 'it returns false'. Refute it at one input. -/
def fnArgumentsCountsRunStartsWrong : ChangeSpec := { name := "fnArgumentsCountsRunStarts", fn := fun _ => fun
  | [d] => { results := [.lit (.bool false)], args := [d] }
  | _ => none }
def FnArgumentsCountsRunStartsWrongFalsely : Prop := fnArgumentsCountsRunStartsRow.holds Trym.pinned (OpenSpec.ofChange fnArgumentsCountsRunStartsWrong)

/-- 'zzlaws_pkg_shape_b1.FnArgumentsJoinAdds': WHATEVER THE INPUT: true; the input reads as it did. -/
def fnArgumentsJoinAddsSpec : ChangeSpec := { name := "fnArgumentsJoinAdds", fn := fun _ => fun
  | [d1, d2] => { results := [.lit (.bool true)], args := [d1, d2] }
  | _ => none }
def fnArgumentsJoinAddsRow : OpenClaim := { program := "qxb6600514amods", sum := "fde31c8d75f8a659a933cf25dd0a8989c9119c622481ca378e74e425abd952b3", func := "example.com/nab/nab/zzlaws_pkg_shape_b1.FnArgumentsJoinAdds", spec := "fnArgumentsJoinAdds", inPlace := ["internal/bytealg.IndexByteString", "internal/bytealg.IndexString"], named := ["internal/bytealg.MaxLen"], make := .lifted ["publicsums"], apart := false }
def FnArgumentsJoinAddsSaid : Prop := fnArgumentsJoinAddsRow.holds Trym.pinned (OpenSpec.ofChange fnArgumentsJoinAddsSpec)

/-- ITS FALSE NEIGHBOUR: 'it returns false'. Refute it at one input. -/
def fnArgumentsJoinAddsWrong : ChangeSpec := { name := "fnArgumentsJoinAdds", fn := fun _ => fun
  | [d1, d2] => { results := [.lit (.bool false)], args := [d1, d2] }
  | _ => none }
def FnArgumentsJoinAddsWrongFalsely : Prop := fnArgumentsJoinAddsRow.holds Trym.pinned (OpenSpec.ofChange fnArgumentsJoinAddsWrong)

/-- 'zzlaws_pkg_shape_b1.FnArgumentsConcatMergesAtSeam': WHATEVER THE INPUT: true; the input reads as it did. -/
def fnArgumentsConcatMergesAtSeamSpec : ChangeSpec := { name := "fnArgumentsConcatMergesAtSeam", fn := fun _ => fun
  | [d1, d2] => { results := [.lit (.bool true)], args := [d1, d2] }
  | _ => none }
def fnArgumentsConcatMergesAtSeamRow : OpenClaim := { program := "qxb6600514amods", sum := "fde31c8d75f8a659a933cf25dd0a8989c9119c622481ca378e74e425abd952b3", func := "example.com/nab/nab/zzlaws_pkg_shape_b1.FnArgumentsConcatMergesAtSeam", spec := "fnArgumentsConcatMergesAtSeam", inPlace := ["internal/bytealg.IndexByteString", "internal/bytealg.IndexString"], named := ["internal/bytealg.MaxLen"], make := .lifted ["publicsums"], apart := false }
def FnArgumentsConcatMergesAtSeamSaid : Prop := fnArgumentsConcatMergesAtSeamRow.holds Trym.pinned (OpenSpec.ofChange fnArgumentsConcatMergesAtSeamSpec)

/-- ITS FALSE NEIGHBOUR: 'it returns false'. Refute it at one input. -/
def fnArgumentsConcatMergesAtSeamWrong : ChangeSpec := { name := "fnArgumentsConcatMergesAtSeam", fn := fun _ => fun
  | [d1, d2] => { results := [.lit (.bool false)], args := [d1, d2] }
  | _ => none }
def FnArgumentsConcatMergesAtSeamWrongFalsely : Prop := fnArgumentsConcatMergesAtSeamRow.holds Trym.pinned (OpenSpec.ofChange fnArgumentsConcatMergesAtSeamWrong)

/-- 'zzlaws_pkg_shape_b1.FnScanMatchesModel': WHATEVER THE INPUT: true; the input reads as it did. -/
def fnScanMatchesModelSpec : ChangeSpec := { name := "fnScanMatchesModel", fn := fun _ => fun
  | [d1, d2, d3] => { results := [.lit (.bool true)], args := [d1, d2, d3] }
  | _ => none }
def fnScanMatchesModelRow : OpenClaim := { program := "qxb6600514amods", sum := "fde31c8d75f8a659a933cf25dd0a8989c9119c622481ca378e74e425abd952b3", func := "example.com/nab/nab/zzlaws_pkg_shape_b1.FnScanMatchesModel", spec := "fnScanMatchesModel", make := .lifted ["publicsums"], apart := false }
def FnScanMatchesModelSaid : Prop := fnScanMatchesModelRow.holds Trym.pinned (OpenSpec.ofChange fnScanMatchesModelSpec)

/-- ITS FALSE NEIGHBOUR: 'it returns false'. Refute it at one input. -/
def fnScanMatchesModelWrong : ChangeSpec := { name := "fnScanMatchesModel", fn := fun _ => fun
  | [d1, d2, d3] => { results := [.lit (.bool false)], args := [d1, d2, d3] }
  | _ => none }
def FnScanMatchesModelWrongFalsely : Prop := fnScanMatchesModelRow.holds Trym.pinned (OpenSpec.ofChange fnScanMatchesModelWrong)

/-- 'zzlaws_pkg_shape_b1.FnScanChunksAgree': WHATEVER THE INPUT: true; the input reads as it did. -/
def fnScanChunksAgreeSpec : ChangeSpec := { name := "fnScanChunksAgree", fn := fun _ => fun
  | [d1, d2, d3, d4, d5, d6, d7, d8] => { results := [.lit (.bool true)], args := [d1, d2, d3, d4, d5, d6, d7, d8] }
  | _ => none }
def fnScanChunksAgreeRow : OpenClaim := { program := "qxb6600514amods", sum := "fde31c8d75f8a659a933cf25dd0a8989c9119c622481ca378e74e425abd952b3", func := "example.com/nab/nab/zzlaws_pkg_shape_b1.FnScanChunksAgree", spec := "fnScanChunksAgree", make := .lifted ["publicsums"], apart := false }
def FnScanChunksAgreeSaid : Prop := fnScanChunksAgreeRow.holds Trym.pinned (OpenSpec.ofChange fnScanChunksAgreeSpec)

/-- ITS FALSE NEIGHBOUR: 'it returns false'. Refute it at one input. -/
def fnScanChunksAgreeWrong : ChangeSpec := { name := "fnScanChunksAgree", fn := fun _ => fun
  | [d1, d2, d3, d4, d5, d6, d7, d8] => { results := [.lit (.bool false)], args := [d1, d2, d3, d4, d5, d6, d7, d8] }
  | _ => none }
def FnScanChunksAgreeWrongFalsely : Prop := fnScanChunksAgreeRow.holds Trym.pinned (OpenSpec.ofChange fnScanChunksAgreeWrong)

/-- 'zzlaws_pkg_shape_b1.FnScanTighterLimitsTripFirst': WHATEVER THE INPUT: true; the input reads as it did. -/
def fnScanTighterLimitsTripFirstSpec : ChangeSpec := { name := "fnScanTighterLimitsTripFirst", fn := fun _ => fun
  | [d1, d2, d3, d4, d5] => { results := [.lit (.bool true)], args := [d1, d2, d3, d4, d5] }
  | _ => none }
def fnScanTighterLimitsTripFirstRow : OpenClaim := { program := "qxb6600514amods", sum := "fde31c8d75f8a659a933cf25dd0a8989c9119c622481ca378e74e425abd952b3", func := "example.com/nab/nab/zzlaws_pkg_shape_b1.FnScanTighterLimitsTripFirst", spec := "fnScanTighterLimitsTripFirst", make := .lifted ["publicsums"], apart := false }
def FnScanTighterLimitsTripFirstSaid : Prop := fnScanTighterLimitsTripFirstRow.holds Trym.pinned (OpenSpec.ofChange fnScanTighterLimitsTripFirstSpec)

/-- ITS FALSE NEIGHBOUR: 'it returns false'. Refute it at one input. -/
def fnScanTighterLimitsTripFirstWrong : ChangeSpec := { name := "fnScanTighterLimitsTripFirst", fn := fun _ => fun
  | [d1, d2, d3, d4, d5] => { results := [.lit (.bool false)], args := [d1, d2, d3, d4, d5] }
  | _ => none }
def FnScanTighterLimitsTripFirstWrongFalsely : Prop := fnScanTighterLimitsTripFirstRow.holds Trym.pinned (OpenSpec.ofChange fnScanTighterLimitsTripFirstWrong)

end Rows
end Go.Proofs.Qxb6600514aMods
