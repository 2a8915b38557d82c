/-
  No cell of these rows narrows 'for every input' (looked for: loops, veiled, ifaces, maps, wideKeys, modest, calm, conditions, laid).
  DERIVED. THE GIVEN ROWS OF THIS SEAT. 3 by the template 'for every input the law returns true; each argument reads behind the call as it read before'; 0 by the template 'total and deterministic' (their statements: Qxb6602872aTotals.lean).
  GIVEN WITH THE SEED: the statements are not yours to turn. If you find one false, say at which input.
  Laid BY PROGRAM, IN A SANDBOX (cutbox-rows.mjs): the forced cells as the released guide's own fill.sh prints them over the translation 62894679513c2429… (all of the seat's roots in one cut). By AI agents, Wed Nov 11 2026. No macro, syntax, notation, axiom, sorry.
-/
import Derived.Test.Qxb6602872aChecked
import GoSem.Claim
import GoSem.ClaimJoined
import GoSem.ClaimMapViews
import Derived.JoinedTies
import Derived.KernelRfl
namespace Go.Proofs.Qxb6602872a
/- THE CELL 'sum', in the pinned program and in every row, IS THE sha256 OF THE DUMP (.gsa) THAT Qxb6602872aProg.lean LOADS. Nothing in Lean hashes anything: it is a label: what it is worth is what the hold of that sum in a sandbox is worth. -/
noncomputable def Try.pinned : Pinned := { name := "qxb6602872a", sum := "62894679513c24291e84be2bcdd200e54e42bdf7b44b06016797324508f3d1a8", checked := Try.checked }
namespace Rows
def none {H : Type} : Left H := { results := [], args := [] }

/-- 'zzlaws_internal_markup_b1.FnSectionLatchLosesNoSection': WHATEVER THE INPUT: true; the input reads as it did. -/
def fnSectionLatchLosesNoSectionSpec : ChangeSpec := { name := "fnSectionLatchLosesNoSection", fn := fun _ => fun
  | [d1, d2, d3, d4, d5] => { results := [.lit (.bool true)], args := [d1, d2, d3, d4, d5] }
  | _ => none }
def fnSectionLatchLosesNoSectionRow : OpenClaim := { program := "qxb6602872a", sum := "62894679513c24291e84be2bcdd200e54e42bdf7b44b06016797324508f3d1a8", func := "example.com/tocsin/tocsin/zzlaws_internal_markup_b1.FnSectionLatchLosesNoSection", spec := "fnSectionLatchLosesNoSection", inPlace := ["internal/bytealg.IndexByteString", "internal/bytealg.IndexString"], named := ["internal/bytealg.MaxLen"], apart := false }
def FnSectionLatchLosesNoSectionSaid : Prop := fnSectionLatchLosesNoSectionRow.holds Try.pinned (OpenSpec.ofChange fnSectionLatchLosesNoSectionSpec)

/-- ITS FALSE NEIGHBOUR: 'it returns false'. Refute it at one input. -/
def fnSectionLatchLosesNoSectionWrong : ChangeSpec := { name := "fnSectionLatchLosesNoSection", fn := fun _ => fun
  | [d1, d2, d3, d4, d5] => { results := [.lit (.bool false)], args := [d1, d2, d3, d4, d5] }
  | _ => none }
def FnSectionLatchLosesNoSectionWrongFalsely : Prop := fnSectionLatchLosesNoSectionRow.holds Try.pinned (OpenSpec.ofChange fnSectionLatchLosesNoSectionWrong)

/-- 'zzlaws_internal_markup_b1.FnCloseInnermostPopsTheInnermost': WHATEVER THE INPUT: true; the input reads as it did. -/
def fnCloseInnermostPopsTheInnermostSpec : ChangeSpec := { name := "fnCloseInnermostPopsTheInnermost", fn := fun _ => fun
  | [d1, d2, d3] => { results := [.lit (.bool true)], args := [d1, d2, d3] }
  | _ => none }
def fnCloseInnermostPopsTheInnermostRow : OpenClaim := { program := "qxb6602872a", sum := "62894679513c24291e84be2bcdd200e54e42bdf7b44b06016797324508f3d1a8", func := "example.com/tocsin/tocsin/zzlaws_internal_markup_b1.FnCloseInnermostPopsTheInnermost", spec := "fnCloseInnermostPopsTheInnermost", inPlace := ["internal/abi.NoEscape"], apart := false }
def FnCloseInnermostPopsTheInnermostSaid : Prop := fnCloseInnermostPopsTheInnermostRow.holds Try.pinned (OpenSpec.ofChange fnCloseInnermostPopsTheInnermostSpec)

/-- ITS FALSE NEIGHBOUR: 'it returns false'. Refute it at one input. -/
def fnCloseInnermostPopsTheInnermostWrong : ChangeSpec := { name := "fnCloseInnermostPopsTheInnermost", fn := fun _ => fun
  | [d1, d2, d3] => { results := [.lit (.bool false)], args := [d1, d2, d3] }
  | _ => none }
def FnCloseInnermostPopsTheInnermostWrongFalsely : Prop := fnCloseInnermostPopsTheInnermostRow.holds Try.pinned (OpenSpec.ofChange fnCloseInnermostPopsTheInnermostWrong)

/-- 'zzlaws_internal_markup_b1.FnEndClosesThroughTheInnermostOfItsName': WHATEVER THE INPUT: true; the input reads as it did. -/
def fnEndClosesThroughTheInnermostOfItsNameSpec : ChangeSpec := { name := "fnEndClosesThroughTheInnermostOfItsName", fn := fun _ => fun
  | [d1, d2, d3, d4] => { results := [.lit (.bool true)], args := [d1, d2, d3, d4] }
  | _ => none }
def fnEndClosesThroughTheInnermostOfItsNameRow : OpenClaim := { program := "qxb6602872a", sum := "62894679513c24291e84be2bcdd200e54e42bdf7b44b06016797324508f3d1a8", func := "example.com/tocsin/tocsin/zzlaws_internal_markup_b1.FnEndClosesThroughTheInnermostOfItsName", spec := "fnEndClosesThroughTheInnermostOfItsName", inPlace := ["internal/abi.NoEscape"], apart := false }
def FnEndClosesThroughTheInnermostOfItsNameSaid : Prop := fnEndClosesThroughTheInnermostOfItsNameRow.holds Try.pinned (OpenSpec.ofChange fnEndClosesThroughTheInnermostOfItsNameSpec)

/-- ITS FALSE NEIGHBOUR: 'it returns false'. Refute it at one input. -/
def fnEndClosesThroughTheInnermostOfItsNameWrong : ChangeSpec := { name := "fnEndClosesThroughTheInnermostOfItsName", fn := fun _ => fun
  | [d1, d2, d3, d4] => { results := [.lit (.bool false)], args := [d1, d2, d3, d4] }
  | _ => none }
def FnEndClosesThroughTheInnermostOfItsNameWrongFalsely : Prop := fnEndClosesThroughTheInnermostOfItsNameRow.holds Try.pinned (OpenSpec.ofChange fnEndClosesThroughTheInnermostOfItsNameWrong)

end Rows
end Go.Proofs.Qxb6602872a
