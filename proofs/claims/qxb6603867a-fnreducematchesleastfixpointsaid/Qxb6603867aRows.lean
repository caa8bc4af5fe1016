/-
  No cell of these rows narrows 'for every input' (looked for: loops, veiled, ifaces, maps, wideKeys, modest, calm, conditions, laid).
  DERIVED. THE GIVEN ROWS OF THIS SEAT. 5 by the template 'for every input the law returns true; each argument reads behind the call as it read before'; 0 by the template 'total and deterministic' (their statements: Qxb6603867aTotals.lean).
  GIVEN WITH THE SEED: the statements are not yours to turn. If you find one false, say at which input.
  Laid BY PROGRAM, IN A SANDBOX (cutbox-rows.mjs): the forced cells as the released guide's own fill.sh prints them over the translation 4b7edb1e5ac5e01b… (all of the seat's roots in one cut). By AI agents, Wed Nov 11 2026. No macro, syntax, notation, axiom, sorry.
-/
import Derived.Test.Qxb6603867aChecked
import GoSem.Claim
import GoSem.ClaimJoined
import GoSem.ClaimMapViews
import Derived.JoinedTies
import Derived.KernelRfl
namespace Go.Proofs.Qxb6603867a
/- THE CELL 'sum', in the pinned program and in every row, IS THE sha256 OF THE DUMP (.gsa) THAT Qxb6603867aProg.lean LOADS. Nothing in Lean hashes anything: it is a label: what it is worth is what the hold of that sum in a sandbox is worth. -/
noncomputable def Try.pinned : Pinned := { name := "qxb6603867a", sum := "4b7edb1e5ac5e01b13bed1dd9e0aaf96669ba05e36a5b29c24717c4ec9294050", checked := Try.checked }
namespace Rows
def none {H : Type} : Left H := { results := [], args := [] }

/-- 'zzlaws_internal_snapshot_b1.FnCompactMatchesModel': WHATEVER THE INPUT: true; the input reads as it did. -/
def fnCompactMatchesModelSpec : ChangeSpec := { name := "fnCompactMatchesModel", fn := fun _ => fun
  | [d1, d2, d3, d4, d5, d6, d7, d8, d9, d10, d11] => { results := [.lit (.bool true)], args := [d1, d2, d3, d4, d5, d6, d7, d8, d9, d10, d11] }
  | _ => none }
def fnCompactMatchesModelRow : OpenClaim := { program := "qxb6603867a", sum := "4b7edb1e5ac5e01b13bed1dd9e0aaf96669ba05e36a5b29c24717c4ec9294050", func := "example.com/knotfinder/knotfinder/zzlaws_internal_snapshot_b1.FnCompactMatchesModel", spec := "fnCompactMatchesModel", apart := false }
def FnCompactMatchesModelSaid : Prop := fnCompactMatchesModelRow.holds Try.pinned (OpenSpec.ofChange fnCompactMatchesModelSpec)

/-- ITS FALSE NEIGHBOUR: 'it returns false'. Refute it at one input. -/
def fnCompactMatchesModelWrong : ChangeSpec := { name := "fnCompactMatchesModel", fn := fun _ => fun
  | [d1, d2, d3, d4, d5, d6, d7, d8, d9, d10, d11] => { results := [.lit (.bool false)], args := [d1, d2, d3, d4, d5, d6, d7, d8, d9, d10, d11] }
  | _ => none }
def FnCompactMatchesModelWrongFalsely : Prop := fnCompactMatchesModelRow.holds Try.pinned (OpenSpec.ofChange fnCompactMatchesModelWrong)

/-- 'zzlaws_internal_snapshot_b1.FnFinishMatchesModel': WHATEVER THE INPUT: true; the input reads as it did. -/
def fnFinishMatchesModelSpec : ChangeSpec := { name := "fnFinishMatchesModel", fn := fun _ => fun
  | [d1, d2, d3, d4, d5, d6, d7] => { results := [.lit (.bool true)], args := [d1, d2, d3, d4, d5, d6, d7] }
  | _ => none }
def fnFinishMatchesModelRow : OpenClaim := { program := "qxb6603867a", sum := "4b7edb1e5ac5e01b13bed1dd9e0aaf96669ba05e36a5b29c24717c4ec9294050", func := "example.com/knotfinder/knotfinder/zzlaws_internal_snapshot_b1.FnFinishMatchesModel", spec := "fnFinishMatchesModel", apart := false }
def FnFinishMatchesModelSaid : Prop := fnFinishMatchesModelRow.holds Try.pinned (OpenSpec.ofChange fnFinishMatchesModelSpec)

/-- ITS FALSE NEIGHBOUR: 'it returns false'. Refute it at one input. -/
def fnFinishMatchesModelWrong : ChangeSpec := { name := "fnFinishMatchesModel", fn := fun _ => fun
  | [d1, d2, d3, d4, d5, d6, d7] => { results := [.lit (.bool false)], args := [d1, d2, d3, d4, d5, d6, d7] }
  | _ => none }
def FnFinishMatchesModelWrongFalsely : Prop := fnFinishMatchesModelRow.holds Try.pinned (OpenSpec.ofChange fnFinishMatchesModelWrong)

/-- 'zzlaws_internal_snapshot_b1.FnFinishLeavesKeepTheirNames': WHATEVER THE INPUT: true; the input reads as it did. -/
def fnFinishLeavesKeepTheirNamesSpec : ChangeSpec := { name := "fnFinishLeavesKeepTheirNames", fn := fun _ => fun
  | [d1, d2, d3, d4, d5, d6, d7] => { results := [.lit (.bool true)], args := [d1, d2, d3, d4, d5, d6, d7] }
  | _ => none }
def fnFinishLeavesKeepTheirNamesRow : OpenClaim := { program := "qxb6603867a", sum := "4b7edb1e5ac5e01b13bed1dd9e0aaf96669ba05e36a5b29c24717c4ec9294050", func := "example.com/knotfinder/knotfinder/zzlaws_internal_snapshot_b1.FnFinishLeavesKeepTheirNames", spec := "fnFinishLeavesKeepTheirNames", apart := false }
def FnFinishLeavesKeepTheirNamesSaid : Prop := fnFinishLeavesKeepTheirNamesRow.holds Try.pinned (OpenSpec.ofChange fnFinishLeavesKeepTheirNamesSpec)

/-- ITS FALSE NEIGHBOUR: 'it returns false'. Refute it at one input. -/
def fnFinishLeavesKeepTheirNamesWrong : ChangeSpec := { name := "fnFinishLeavesKeepTheirNames", fn := fun _ => fun
  | [d1, d2, d3, d4, d5, d6, d7] => { results := [.lit (.bool false)], args := [d1, d2, d3, d4, d5, d6, d7] }
  | _ => none }
def FnFinishLeavesKeepTheirNamesWrongFalsely : Prop := fnFinishLeavesKeepTheirNamesRow.holds Try.pinned (OpenSpec.ofChange fnFinishLeavesKeepTheirNamesWrong)

/-- 'zzlaws_internal_snapshot_b1.FnReduceMatchesLeastFixpoint': WHATEVER THE INPUT: true; the input reads as it did. -/
def fnReduceMatchesLeastFixpointSpec : ChangeSpec := { name := "fnReduceMatchesLeastFixpoint", fn := fun _ => fun
  | [d1, d2, d3, d4, d5, d6] => { results := [.lit (.bool true)], args := [d1, d2, d3, d4, d5, d6] }
  | _ => none }
def fnReduceMatchesLeastFixpointRow : OpenClaim := { program := "qxb6603867a", sum := "4b7edb1e5ac5e01b13bed1dd9e0aaf96669ba05e36a5b29c24717c4ec9294050", func := "example.com/knotfinder/knotfinder/zzlaws_internal_snapshot_b1.FnReduceMatchesLeastFixpoint", spec := "fnReduceMatchesLeastFixpoint", apart := false }
def FnReduceMatchesLeastFixpointSaid : Prop := fnReduceMatchesLeastFixpointRow.holds Try.pinned (OpenSpec.ofChange fnReduceMatchesLeastFixpointSpec)

/-- ITS FALSE NEIGHBOUR: 'it returns false'. Refute it at one input. -/
def fnReduceMatchesLeastFixpointWrong : ChangeSpec := { name := "fnReduceMatchesLeastFixpoint", fn := fun _ => fun
  | [d1, d2, d3, d4, d5, d6] => { results := [.lit (.bool false)], args := [d1, d2, d3, d4, d5, d6] }
  | _ => none }
def FnReduceMatchesLeastFixpointWrongFalsely : Prop := fnReduceMatchesLeastFixpointRow.holds Try.pinned (OpenSpec.ofChange fnReduceMatchesLeastFixpointWrong)

/-- 'zzlaws_internal_snapshot_b1.FnReduceLowerThresholdFreesMore': WHATEVER THE INPUT: true; the input reads as it did. -/
def fnReduceLowerThresholdFreesMoreSpec : ChangeSpec := { name := "fnReduceLowerThresholdFreesMore", fn := fun _ => fun
  | [d1, d2, d3, d4, d5, d6, d7] => { results := [.lit (.bool true)], args := [d1, d2, d3, d4, d5, d6, d7] }
  | _ => none }
def fnReduceLowerThresholdFreesMoreRow : OpenClaim := { program := "qxb6603867a", sum := "4b7edb1e5ac5e01b13bed1dd9e0aaf96669ba05e36a5b29c24717c4ec9294050", func := "example.com/knotfinder/knotfinder/zzlaws_internal_snapshot_b1.FnReduceLowerThresholdFreesMore", spec := "fnReduceLowerThresholdFreesMore", apart := false }
def FnReduceLowerThresholdFreesMoreSaid : Prop := fnReduceLowerThresholdFreesMoreRow.holds Try.pinned (OpenSpec.ofChange fnReduceLowerThresholdFreesMoreSpec)

/-- ITS FALSE NEIGHBOUR: 'it returns false'. Refute it at one input. -/
def fnReduceLowerThresholdFreesMoreWrong : ChangeSpec := { name := "fnReduceLowerThresholdFreesMore", fn := fun _ => fun
  | [d1, d2, d3, d4, d5, d6, d7] => { results := [.lit (.bool false)], args := [d1, d2, d3, d4, d5, d6, d7] }
  | _ => none }
def FnReduceLowerThresholdFreesMoreWrongFalsely : Prop := fnReduceLowerThresholdFreesMoreRow.holds Try.pinned (OpenSpec.ofChange fnReduceLowerThresholdFreesMoreWrong)

end Rows
end Go.Proofs.Qxb6603867a
