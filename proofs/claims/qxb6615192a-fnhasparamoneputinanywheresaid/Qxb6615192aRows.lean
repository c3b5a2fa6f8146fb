/-
  No cell of these rows narrows 'for every input' (looked for: loops, veiled, ifaces, maps, wideKeys, modest, calm, conditions, laid).
  DERIVED. THE GIVEN ROWS OF THIS SEAT. 1 by the template 'for every input the law returns true; each argument reads behind the call as it read before'; 0 by the template 'total and deterministic' (their statements: Qxb6615192aTotals.lean).
  GIVEN WITH THE SEED: the statements are not yours to turn. If you find one false, say at which input.
  Laid BY PROGRAM, IN A SANDBOX (cutbox-rows.mjs): the forced cells as the released guide's own fill.sh prints them over the translation c49ce5bb261d5ded… (all of the seat's roots in one cut). By AI agents, Wed Nov 11 2026. No macro, syntax, notation, axiom, sorry.
-/
import Derived.Test.Qxb6615192aChecked
import GoSem.Claim
import GoSem.ClaimJoined
import GoSem.ClaimMapViews
import Derived.JoinedTies
import Derived.KernelRfl
namespace Go.Proofs.Qxb6615192a
/- THE CELL 'sum', in the pinned program and in every row, IS THE sha256 OF THE DUMP (.gsa) THAT Qxb6615192aProg.lean LOADS. Nothing in Lean hashes anything: it is a label: what it is worth is what the hold of that sum in a sandbox is worth. -/
noncomputable def Try.pinned : Pinned := { name := "qxb6615192a", sum := "c49ce5bb261d5ded7fcc6b38d96cca12749bec17e429bcb4a40e69be3a3044f0", checked := Try.checked }
namespace Rows
def none {H : Type} : Left H := { results := [], args := [] }

/-- 'zzlaws_root_b1.FnHasParamOnePutInAnywhere': WHATEVER THE INPUT: true; the input reads as it did. -/
def fnHasParamOnePutInAnywhereSpec : ChangeSpec := { name := "fnHasParamOnePutInAnywhere", fn := fun _ => fun
  | [d1, d2, d3, d4, d5, d6] => { results := [.lit (.bool true)], args := [d1, d2, d3, d4, d5, d6] }
  | _ => none }
def fnHasParamOnePutInAnywhereRow : OpenClaim := { program := "qxb6615192a", sum := "c49ce5bb261d5ded7fcc6b38d96cca12749bec17e429bcb4a40e69be3a3044f0", func := "example.com/upseal/upseal/zzlaws_root_b1.FnHasParamOnePutInAnywhere", spec := "fnHasParamOnePutInAnywhere", unfollowed := true, recurses := true, apart := false }
def FnHasParamOnePutInAnywhereSaid : Prop := fnHasParamOnePutInAnywhereRow.holds Try.pinned (OpenSpec.ofChange fnHasParamOnePutInAnywhereSpec)

/-- ITS FALSE NEIGHBOUR: 'it returns false'. Refute it at one input. -/
def fnHasParamOnePutInAnywhereWrong : ChangeSpec := { name := "fnHasParamOnePutInAnywhere", fn := fun _ => fun
  | [d1, d2, d3, d4, d5, d6] => { results := [.lit (.bool false)], args := [d1, d2, d3, d4, d5, d6] }
  | _ => none }
def FnHasParamOnePutInAnywhereWrongFalsely : Prop := fnHasParamOnePutInAnywhereRow.holds Try.pinned (OpenSpec.ofChange fnHasParamOnePutInAnywhereWrong)

end Rows
end Go.Proofs.Qxb6615192a
