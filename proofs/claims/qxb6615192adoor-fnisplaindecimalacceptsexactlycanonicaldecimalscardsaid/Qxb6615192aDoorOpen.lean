/-
  From the row's condition on the listed variables to the two sentinels' cells.
-/
import Derived.Test.Qxb6615192aDoorRows
import Derived.Test.Qxb6615192aDoorDec
import Derived.ProofKit
import Derived.LaidMore
import Derived.MakeChecks
import Derived.OpenShut
import Derived.ShutString
import Derived.Stop.Joined
namespace Go.Proofs.Qxb6615192aDoor
open Go.ChangeShapes Go.WideShapes Go.ChangeAt Go.RowKit

theorem own : ownKnob Tryd.prog.godebug = none := by kernel_rfl
theorem laidOut : laidOutB Tryd.prog = true := by kernel_rfl
theorem gS : Tryd.prog.globalNamed "strconv.ErrSyntax" = some 0 := by kernel_rfl
theorem gR : Tryd.prog.globalNamed "strconv.ErrRange" = some 1 := by kernel_rfl
theorem tS : (Tryd.prog.globals[0]?).map (·.type) = some 31 := by kernel_rfl
theorem tR : (Tryd.prog.globals[1]?).map (·.type) = some 31 := by kernel_rfl

theorem iface_of_trod {H : Type} {enc : TypeId × Value → H} {P : Program} {w : World} {base : Nat} {sp : Nat → Bool} {held : Bool} {fuel : Nat} {t : TypeId} {cs : List Value} {nm : String} {d : DataW H} {p : List MemPlace} {ms : Array (String × TypeId)}
    (hi : P.underlying t = some (.interface ms)) (h : DataW.trod enc P w base sp held fuel t cs = some (.iface nm d, p)) : ∃ u v, cs = [.iface u v] := by
  cases fuel with
  | zero => simp [DataW.trod] at h
  | succ n =>
    unfold DataW.trod at h
    rw [hi] at h
    split at h <;> simp_all

/-- the list of both rows -/
theorem same_list : Rows.fnIsPlainDecimalPrefixesStayPlainRow.laid = Rows.fnIsPlainDecimalAcceptsExactlyCanonicalDecimalsRow.laid := rfl

theorem errs_of_laid {W : World} (h : laidMetH Tryd.prog Rows.fnIsPlainDecimalPrefixesStayPlainRow.laid W) : Errs W := by
  rw [MakeChecks.laidMetH_plain _ _ _ (by kernel_rfl)] at h
  obtain ⟨ps, ⟨g0, t0, cs0, f0, p0, q0, hg0, ht0, hv0, hd0, ⟨g1, t1, cs1, f1, p1, q1, hg1, ht1, hv1, hd1, ⟨g2, t2, cs2, f2, p2, q2, hg2, ht2, hv2, hd2, ⟨g3, t3, cs3, f3, p3, q3, hg3, ht3, hv3, hd3, ⟨g4, t4, cs4, f4, p4, q4, hg4, ht4, hv4, hd4, _, _⟩, _⟩, _⟩, _⟩, _⟩, _, _⟩ := h
  obtain rfl := Option.some.inj (gR.symm.trans hg3)
  obtain rfl := Option.some.inj (gS.symm.trans hg4)
  obtain rfl := Option.some.inj (tR.symm.trans ht3)
  obtain rfl := Option.some.inj (tS.symm.trans ht4)
  obtain ⟨u3, v3, e3⟩ := iface_of_trod Tryd.underlying31 hd3
  obtain ⟨u4, v4, e4⟩ := iface_of_trod Tryd.underlying31 hd4
  refine ⟨⟨u4, v4, ?_⟩, u3, v3, ?_⟩
  · have := World.var?_cell hg4 hv4 0
    rw [Array.eq_one_of_toList e4] at this
    simpa using this
  · have := World.var?_cell hg3 hv3 0
    rw [Array.eq_one_of_toList e3] at this
    simpa using this

/-- the heap that the door's own run leaves meets the condition -/
theorem door_met (os : Os) (args : Array Value) : laidMetH Tryd.prog Rows.fnIsPlainDecimalPrefixesStayPlainRow.laid ((World.doorLaid Tryd.prog 400 os).forCall (fun _ _ => 0) ⟨#[], args, []⟩).memory :=
  laidMetH_of_parts3 (fuel := 8) (laidMet_of_run' 8 (by kernel_rfl) (by kernel_rfl)) (by kernel_rfl) (by kernel_rfl)
end Go.Proofs.Qxb6615192aDoor
