/-
  No cell of these rows narrows 'for every input' (looked for: loops, veiled, ifaces, maps, wideKeys, modest, calm, conditions, laid).
  DERIVED. THE GIVEN ROWS OF THIS SEAT. 3 by the template 'for every input the law returns true; each argument reads behind the call as it read before'; 0 by the template 'total and deterministic' (their statements: Qxb6001537aTotals.lean).
  GIVEN WITH THE SEED: the statements are not yours to turn. If you find one false, say at which input.
  Laid BY PROGRAM, IN A SANDBOX (cutbox-rows.mjs): the forced cells as the released guide's own fill.sh prints them over the translation b55c7ea1c61bdbf2… (all of the seat's roots in one cut). By AI agents, Wed Nov 11 2026. No macro, syntax, notation, axiom, sorry.
-/
import Derived.Test.Qxb6001537aChecked
import GoSem.Claim
import GoSem.ClaimJoined
import GoSem.ClaimMapViews
import Derived.JoinedTies
import Derived.KernelRfl
namespace Go.Proofs.Qxb6001537a
/- THE CELL 'sum', in the pinned program and in every row, IS THE sha256 OF THE DUMP (.gsa) THAT Qxb6001537aProg.lean LOADS. Nothing in Lean hashes anything: it is a label: what it is worth is what the hold of that sum in a sandbox is worth. -/
noncomputable def Try.pinned : Pinned := { name := "qxb6001537a", sum := "b55c7ea1c61bdbf2492f217d85396a0cc10bde3dac95fbf8068d0e1a954fdca0", checked := Try.checked }
namespace Rows
def none {H : Type} : Left H := { results := [], args := [] }

/-- 'zzlaws_pkg_compat_b1.FnCompareTextsMatchesByteOrder': WHATEVER THE INPUT: true; the input reads as it did. -/
def fnCompareTextsMatchesByteOrderSpec : ChangeSpec := { name := "fnCompareTextsMatchesByteOrder", fn := fun _ => fun
  | [d1, d2, d3] => { results := [.lit (.bool true)], args := [d1, d2, d3] }
  | _ => none }
def fnCompareTextsMatchesByteOrderRow : OpenClaim := { program := "qxb6001537a", sum := "b55c7ea1c61bdbf2492f217d85396a0cc10bde3dac95fbf8068d0e1a954fdca0", func := "example.com/portolan/portolan/zzlaws_pkg_compat_b1.FnCompareTextsMatchesByteOrder", spec := "fnCompareTextsMatchesByteOrder", inPlace := ["internal/bytealg.abigen_runtime_cmpstring"], apart := false }
def FnCompareTextsMatchesByteOrderSaid : Prop := fnCompareTextsMatchesByteOrderRow.holds Try.pinned (OpenSpec.ofChange fnCompareTextsMatchesByteOrderSpec)

/-- ITS FALSE NEIGHBOUR: 'it returns false'. Refute it at one input. -/
def fnCompareTextsMatchesByteOrderWrong : ChangeSpec := { name := "fnCompareTextsMatchesByteOrder", fn := fun _ => fun
  | [d1, d2, d3] => { results := [.lit (.bool false)], args := [d1, d2, d3] }
  | _ => none }
def FnCompareTextsMatchesByteOrderWrongFalsely : Prop := fnCompareTextsMatchesByteOrderRow.holds Try.pinned (OpenSpec.ofChange fnCompareTextsMatchesByteOrderWrong)

/-- 'zzlaws_pkg_compat_b1.FnCompareTextsChargesSharedPrefix': WHATEVER THE INPUT: true; the input reads as it did. -/
def fnCompareTextsChargesSharedPrefixSpec : ChangeSpec := { name := "fnCompareTextsChargesSharedPrefix", fn := fun _ => fun
  | [d1, d2, d3] => { results := [.lit (.bool true)], args := [d1, d2, d3] }
  | _ => none }
def fnCompareTextsChargesSharedPrefixRow : OpenClaim := { program := "qxb6001537a", sum := "b55c7ea1c61bdbf2492f217d85396a0cc10bde3dac95fbf8068d0e1a954fdca0", func := "example.com/portolan/portolan/zzlaws_pkg_compat_b1.FnCompareTextsChargesSharedPrefix", spec := "fnCompareTextsChargesSharedPrefix", inPlace := ["internal/bytealg.abigen_runtime_cmpstring"], apart := false }
def FnCompareTextsChargesSharedPrefixSaid : Prop := fnCompareTextsChargesSharedPrefixRow.holds Try.pinned (OpenSpec.ofChange fnCompareTextsChargesSharedPrefixSpec)

/-- ITS FALSE NEIGHBOUR: 'it returns false'. Refute it at one input. -/
def fnCompareTextsChargesSharedPrefixWrong : ChangeSpec := { name := "fnCompareTextsChargesSharedPrefix", fn := fun _ => fun
  | [d1, d2, d3] => { results := [.lit (.bool false)], args := [d1, d2, d3] }
  | _ => none }
def FnCompareTextsChargesSharedPrefixWrongFalsely : Prop := fnCompareTextsChargesSharedPrefixRow.holds Try.pinned (OpenSpec.ofChange fnCompareTextsChargesSharedPrefixWrong)

/-- 'zzlaws_pkg_compat_b1.FnCompareTextsAntisymmetric': WHATEVER THE INPUT: true; the input reads as it did. -/
def fnCompareTextsAntisymmetricSpec : ChangeSpec := { name := "fnCompareTextsAntisymmetric", fn := fun _ => fun
  | [d1, d2, d3] => { results := [.lit (.bool true)], args := [d1, d2, d3] }
  | _ => none }
def fnCompareTextsAntisymmetricRow : OpenClaim := { program := "qxb6001537a", sum := "b55c7ea1c61bdbf2492f217d85396a0cc10bde3dac95fbf8068d0e1a954fdca0", func := "example.com/portolan/portolan/zzlaws_pkg_compat_b1.FnCompareTextsAntisymmetric", spec := "fnCompareTextsAntisymmetric", inPlace := ["internal/bytealg.abigen_runtime_cmpstring"], apart := false }
def FnCompareTextsAntisymmetricSaid : Prop := fnCompareTextsAntisymmetricRow.holds Try.pinned (OpenSpec.ofChange fnCompareTextsAntisymmetricSpec)

/-- ITS FALSE NEIGHBOUR: 'it returns false'. Refute it at one input. -/
def fnCompareTextsAntisymmetricWrong : ChangeSpec := { name := "fnCompareTextsAntisymmetric", fn := fun _ => fun
  | [d1, d2, d3] => { results := [.lit (.bool false)], args := [d1, d2, d3] }
  | _ => none }
def FnCompareTextsAntisymmetricWrongFalsely : Prop := fnCompareTextsAntisymmetricRow.holds Try.pinned (OpenSpec.ofChange fnCompareTextsAntisymmetricWrong)

end Rows
end Go.Proofs.Qxb6001537a
