/-
  No cell of these rows narrows 'for every input' (looked for: loops, veiled, ifaces, maps, wideKeys, modest, calm, conditions, laid).
  DERIVED. THE GIVEN ROWS OF THIS SEAT. 2 by the template 'for every input the law returns true; each argument reads behind the call as it read before'; 0 by the template 'total and deterministic' (their statements: Qxb6615205aTotals.lean).
  GIVEN WITH THE SEED: the statements are not yours to turn. If you find one false, say at which input.
  Laid BY PROGRAM, IN A SANDBOX (cutbox-rows.mjs): the forced cells as the released guide's own fill.sh prints them over the translation 763d5cdd6ca61d1e… (all of the seat's roots in one cut). By AI agents, Wed Nov 11 2026. No macro, syntax, notation, axiom, sorry.
-/
import Derived.Test.Qxb6615205aChecked
import GoSem.Claim
import GoSem.ClaimJoined
import GoSem.ClaimMapViews
import Derived.JoinedTies
import Derived.KernelRfl
namespace Go.Proofs.Qxb6615205a
/- THE CELL 'sum', in the pinned program and in every row, IS THE sha256 OF THE DUMP (.gsa) THAT Qxb6615205aProg.lean LOADS. Nothing in Lean hashes anything: it is a label: what it is worth is what the hold of that sum in a sandbox is worth. -/
noncomputable def Try.pinned : Pinned := { name := "qxb6615205a", sum := "763d5cdd6ca61d1ea8301fc3705fd13a8922d24ef0d17d41aa3d16b8c3e59140", checked := Try.checked }
namespace Rows
def none {H : Type} : Left H := { results := [], args := [] }

/-- 'zzlaws_pkg_routing_b1.FnRoutesChangedListsEachOnceInFirstOrder': WHATEVER THE INPUT: true; the input reads as it did. -/
def fnRoutesChangedListsEachOnceInFirstOrderSpec : ChangeSpec := { name := "fnRoutesChangedListsEachOnceInFirstOrder", fn := fun _ => fun
  | [d1, d2] => { results := [.lit (.bool true)], args := [d1, d2] }
  | _ => none }
def fnRoutesChangedListsEachOnceInFirstOrderRow : OpenClaim := { program := "qxb6615205a", sum := "763d5cdd6ca61d1ea8301fc3705fd13a8922d24ef0d17d41aa3d16b8c3e59140", func := "example.com/gatehouse/gatehouse/zzlaws_pkg_routing_b1.FnRoutesChangedListsEachOnceInFirstOrder", spec := "fnRoutesChangedListsEachOnceInFirstOrder", plainKeys := false, apart := false }
def FnRoutesChangedListsEachOnceInFirstOrderSaid : Prop := fnRoutesChangedListsEachOnceInFirstOrderRow.holds Try.pinned (OpenSpec.ofChange fnRoutesChangedListsEachOnceInFirstOrderSpec)

/-- ITS FALSE NEIGHBOUR: 'it returns false'. Refute it at one input. -/
def fnRoutesChangedListsEachOnceInFirstOrderWrong : ChangeSpec := { name := "fnRoutesChangedListsEachOnceInFirstOrder", fn := fun _ => fun
  | [d1, d2] => { results := [.lit (.bool false)], args := [d1, d2] }
  | _ => none }
def FnRoutesChangedListsEachOnceInFirstOrderWrongFalsely : Prop := fnRoutesChangedListsEachOnceInFirstOrderRow.holds Try.pinned (OpenSpec.ofChange fnRoutesChangedListsEachOnceInFirstOrderWrong)

/-- 'zzlaws_pkg_routing_b1.FnRoutesChangedRepeatAddsNothing': WHATEVER THE INPUT: true; the input reads as it did. -/
def fnRoutesChangedRepeatAddsNothingSpec : ChangeSpec := { name := "fnRoutesChangedRepeatAddsNothing", fn := fun _ => fun
  | [d1, d2, d3] => { results := [.lit (.bool true)], args := [d1, d2, d3] }
  | _ => none }
def fnRoutesChangedRepeatAddsNothingRow : OpenClaim := { program := "qxb6615205a", sum := "763d5cdd6ca61d1ea8301fc3705fd13a8922d24ef0d17d41aa3d16b8c3e59140", func := "example.com/gatehouse/gatehouse/zzlaws_pkg_routing_b1.FnRoutesChangedRepeatAddsNothing", spec := "fnRoutesChangedRepeatAddsNothing", plainKeys := false, apart := false }
def FnRoutesChangedRepeatAddsNothingSaid : Prop := fnRoutesChangedRepeatAddsNothingRow.holds Try.pinned (OpenSpec.ofChange fnRoutesChangedRepeatAddsNothingSpec)

/-- ITS FALSE NEIGHBOUR: 'it returns false'. Refute it at one input. -/
def fnRoutesChangedRepeatAddsNothingWrong : ChangeSpec := { name := "fnRoutesChangedRepeatAddsNothing", fn := fun _ => fun
  | [d1, d2, d3] => { results := [.lit (.bool false)], args := [d1, d2, d3] }
  | _ => none }
def FnRoutesChangedRepeatAddsNothingWrongFalsely : Prop := fnRoutesChangedRepeatAddsNothingRow.holds Try.pinned (OpenSpec.ofChange fnRoutesChangedRepeatAddsNothingWrong)

end Rows
end Go.Proofs.Qxb6615205a
