/-
  No cell of these rows narrows 'for every input' (looked for: loops, veiled, ifaces, maps, wideKeys, modest, calm, conditions, laid).
  DERIVED. THE GIVEN ROWS OF THIS SEAT. 5 by the template 'for every input the law returns true; each argument reads behind the call as it read before'; 0 by the template 'total and deterministic' (their statements: Qxb6601159aTotals.lean).
  GIVEN WITH THE SEED: the statements are not yours to turn. If you find one false, say at which input.
  Laid BY PROGRAM, IN A SANDBOX (cutbox-rows.mjs): the forced cells as the released guide's own fill.sh prints them over the translation cefa59baa43064b5… (all of the seat's roots in one cut). By AI agents, Wed Nov 11 2026. No macro, syntax, notation, axiom, sorry.
-/
import Derived.Test.Qxb6601159aChecked
import GoSem.Claim
import GoSem.ClaimJoined
import GoSem.ClaimMapViews
import Derived.JoinedTies
import Derived.KernelRfl
namespace Go.Proofs.Qxb6601159a
/- THE CELL 'sum', in the pinned program and in every row, IS THE sha256 OF THE DUMP (.gsa) THAT Qxb6601159aProg.lean LOADS. Nothing in Lean hashes anything: it is a label: what it is worth is what the hold of that sum in a sandbox is worth. -/
noncomputable def Try.pinned : Pinned := { name := "qxb6601159a", sum := "cefa59baa43064b5a160a6a71a0201d375eb3f5e41f4c2664bf236c61a6affcf", checked := Try.checked }
namespace Rows
def none {H : Type} : Left H := { results := [], args := [] }

/-- 'zzlaws_internal_pan_b1.FnMaskAllSpec': WHATEVER THE INPUT: true; the input reads as it did. -/
def fnMaskAllSpecSpec : ChangeSpec := { name := "fnMaskAllSpec", fn := fun _ => fun
  | [d] => { results := [.lit (.bool true)], args := [d] }
  | _ => none }
def fnMaskAllSpecRow : OpenClaim := { program := "qxb6601159a", sum := "cefa59baa43064b5a160a6a71a0201d375eb3f5e41f4c2664bf236c61a6affcf", func := "example.com/keelstone/keelstone/zzlaws_internal_pan_b1.FnMaskAllSpec", spec := "fnMaskAllSpec", apart := false }
def FnMaskAllSpecSaid : Prop := fnMaskAllSpecRow.holds Try.pinned (OpenSpec.ofChange fnMaskAllSpecSpec)

/-- ITS FALSE NEIGHBOUR: 'it returns false'. Refute it at one input. -/
def fnMaskAllSpecWrong : ChangeSpec := { name := "fnMaskAllSpec", fn := fun _ => fun
  | [d] => { results := [.lit (.bool false)], args := [d] }
  | _ => none }
def FnMaskAllSpecWrongFalsely : Prop := fnMaskAllSpecRow.holds Try.pinned (OpenSpec.ofChange fnMaskAllSpecWrong)

/-- 'zzlaws_internal_pan_b1.FnMaskAllIdempotent': WHATEVER THE INPUT: true; the input reads as it did. -/
def fnMaskAllIdempotentSpec : ChangeSpec := { name := "fnMaskAllIdempotent", fn := fun _ => fun
  | [d] => { results := [.lit (.bool true)], args := [d] }
  | _ => none }
def fnMaskAllIdempotentRow : OpenClaim := { program := "qxb6601159a", sum := "cefa59baa43064b5a160a6a71a0201d375eb3f5e41f4c2664bf236c61a6affcf", func := "example.com/keelstone/keelstone/zzlaws_internal_pan_b1.FnMaskAllIdempotent", spec := "fnMaskAllIdempotent", apart := false }
def FnMaskAllIdempotentSaid : Prop := fnMaskAllIdempotentRow.holds Try.pinned (OpenSpec.ofChange fnMaskAllIdempotentSpec)

/-- ITS FALSE NEIGHBOUR: 'it returns false'. Refute it at one input. -/
def fnMaskAllIdempotentWrong : ChangeSpec := { name := "fnMaskAllIdempotent", fn := fun _ => fun
  | [d] => { results := [.lit (.bool false)], args := [d] }
  | _ => none }
def FnMaskAllIdempotentWrongFalsely : Prop := fnMaskAllIdempotentRow.holds Try.pinned (OpenSpec.ofChange fnMaskAllIdempotentWrong)

/-- 'zzlaws_internal_pan_b1.FnMaskAllLeavesNoPANHead': WHATEVER THE INPUT: true; the input reads as it did. -/
def fnMaskAllLeavesNoPANHeadSpec : ChangeSpec := { name := "fnMaskAllLeavesNoPANHead", fn := fun _ => fun
  | [d] => { results := [.lit (.bool true)], args := [d] }
  | _ => none }
def fnMaskAllLeavesNoPANHeadRow : OpenClaim := { program := "qxb6601159a", sum := "cefa59baa43064b5a160a6a71a0201d375eb3f5e41f4c2664bf236c61a6affcf", func := "example.com/keelstone/keelstone/zzlaws_internal_pan_b1.FnMaskAllLeavesNoPANHead", spec := "fnMaskAllLeavesNoPANHead", apart := false }
def FnMaskAllLeavesNoPANHeadSaid : Prop := fnMaskAllLeavesNoPANHeadRow.holds Try.pinned (OpenSpec.ofChange fnMaskAllLeavesNoPANHeadSpec)

/-- ITS FALSE NEIGHBOUR: 'it returns false'. Refute it at one input. -/
def fnMaskAllLeavesNoPANHeadWrong : ChangeSpec := { name := "fnMaskAllLeavesNoPANHead", fn := fun _ => fun
  | [d] => { results := [.lit (.bool false)], args := [d] }
  | _ => none }
def FnMaskAllLeavesNoPANHeadWrongFalsely : Prop := fnMaskAllLeavesNoPANHeadRow.holds Try.pinned (OpenSpec.ofChange fnMaskAllLeavesNoPANHeadWrong)

/-- 'zzlaws_internal_pan_b1.FnMaskAllHidesWhatHasFormFinds': WHATEVER THE INPUT: true; the input reads as it did. -/
def fnMaskAllHidesWhatHasFormFindsSpec : ChangeSpec := { name := "fnMaskAllHidesWhatHasFormFinds", fn := fun _ => fun
  | [d] => { results := [.lit (.bool true)], args := [d] }
  | _ => none }
def fnMaskAllHidesWhatHasFormFindsRow : OpenClaim := { program := "qxb6601159a", sum := "cefa59baa43064b5a160a6a71a0201d375eb3f5e41f4c2664bf236c61a6affcf", func := "example.com/keelstone/keelstone/zzlaws_internal_pan_b1.FnMaskAllHidesWhatHasFormFinds", spec := "fnMaskAllHidesWhatHasFormFinds", apart := false }
def FnMaskAllHidesWhatHasFormFindsSaid : Prop := fnMaskAllHidesWhatHasFormFindsRow.holds Try.pinned (OpenSpec.ofChange fnMaskAllHidesWhatHasFormFindsSpec)

/-- ITS FALSE NEIGHBOUR: 'it returns false'. Refute it at one input. -/
def fnMaskAllHidesWhatHasFormFindsWrong : ChangeSpec := { name := "fnMaskAllHidesWhatHasFormFinds", fn := fun _ => fun
  | [d] => { results := [.lit (.bool false)], args := [d] }
  | _ => none }
def FnMaskAllHidesWhatHasFormFindsWrongFalsely : Prop := fnMaskAllHidesWhatHasFormFindsRow.holds Try.pinned (OpenSpec.ofChange fnMaskAllHidesWhatHasFormFindsWrong)

/-- 'zzlaws_internal_pan_b1.FnFitsCountPerIndex': WHATEVER THE INPUT: true; the input reads as it did. -/
def fnFitsCountPerIndexSpec : ChangeSpec := { name := "fnFitsCountPerIndex", fn := fun _ => fun
  | [d] => { results := [.lit (.bool true)], args := [d] }
  | _ => none }
def fnFitsCountPerIndexRow : OpenClaim := { program := "qxb6601159a", sum := "cefa59baa43064b5a160a6a71a0201d375eb3f5e41f4c2664bf236c61a6affcf", func := "example.com/keelstone/keelstone/zzlaws_internal_pan_b1.FnFitsCountPerIndex", spec := "fnFitsCountPerIndex", apart := false }
def FnFitsCountPerIndexSaid : Prop := fnFitsCountPerIndexRow.holds Try.pinned (OpenSpec.ofChange fnFitsCountPerIndexSpec)

/-- ITS FALSE NEIGHBOUR: 'it returns false'. Refute it at one input. -/
def fnFitsCountPerIndexWrong : ChangeSpec := { name := "fnFitsCountPerIndex", fn := fun _ => fun
  | [d] => { results := [.lit (.bool false)], args := [d] }
  | _ => none }
def FnFitsCountPerIndexWrongFalsely : Prop := fnFitsCountPerIndexRow.holds Try.pinned (OpenSpec.ofChange fnFitsCountPerIndexWrong)

end Rows
end Go.Proofs.Qxb6601159a
