/-
  What the arguments' reading gives the walks.
-/
import Derived.Test.Qxb6615205aRows
import Derived.Test.Qxb6615205aGuards
import Derived.WalkKit
import Derived.ProofKit
import Derived.OpenShut
import Derived.ShutString
import Derived.ChangeOld
import Derived.ChangeSlices
import Derived.Below
import Derived.SliceStrings
namespace Go.Proofs.Qxb6615205a
open Go.ChangeShapes Go.WideShapes Go.ChangeAt Go.RowKit

theorem own : ownKnob Try.prog.godebug = none := by kernel_rfl
theorem laidOut : laidOutB Try.prog = true := by kernel_rfl
theorem Try.cells9 : Try.prog.cellsOf 9 = 1 := by kernel_rfl
theorem Try.cells3 : Try.prog.cellsOf 3 = 1 := by kernel_rfl

/-- from the argument's reading to what the walks ask -/
theorem strs_of_trod {H : Type} {enc : TypeId × Value → H} {W : World} {a : Option Addr} {len cap : Nat} {d : DataW H} {ps : List MemPlace}
    (h : DataW.Trod enc Try.prog W 0 (fun _ => true) true 22 (.slice a len cap) d ps) : ∃ ss, Strs W a len ss := by
  obtain ⟨fuel, hf⟩ := h
  rcases open_strings Try.underlying22 Try.underlying9 Try.cells9 hf with ⟨hcs, _⟩ | ⟨x, l, c, ss, hcs, _, hl, hm, hz, _, hcell, _⟩
  · simp [Value.cells] at hcs
    obtain ⟨rfl, rfl, rfl⟩ := hcs
    exact ⟨fun _ => ByteArray.empty, fun i hi => absurd hi (Nat.not_lt_zero i)⟩
  · simp [Value.cells] at hcs
    obtain ⟨rfl, rfl, rfl⟩ := hcs
    simp only [if_true] at hz
    refine ⟨fun i => ss.getD i ByteArray.empty, fun i hi => ?_⟩
    obtain ⟨b, off, spot⟩ := x
    have hc0 := hcell 0 (by omega)
    have hspot : spot = none := by simpa [Addr.add] using World.cell?_spot hc0
    subst hspot
    have hci := hcell i (by omega)
    rw [add_plain] at hci
    exact ⟨b, off, rfl, World.block_lt_of_cell? _ _ hci, hci⟩

/-- .. of a slice of ints; its capacity too -/
theorem ints_of_trod {H : Type} {enc : TypeId × Value → H} {W : World} {a : Option Addr} {len cap : Nat} {d : DataW H} {ps : List MemPlace}
    (h : DataW.Trod enc Try.prog W 0 (fun _ => true) true 23 (.slice a len cap) d ps) : (∃ z, Ints W a len z) ∧ len ≤ cap ∧ cap ≤ maxLen := by
  obtain ⟨fuel, hf⟩ := h
  rcases open_ints Try.underlying23 Try.underlying3 Try.cells3 hf with ⟨hcs, _⟩ | ⟨x, l, c, ss, hcs, _, hl, hm, hz, _, hcell, _⟩
  · simp [Value.cells] at hcs
    obtain ⟨rfl, rfl, rfl⟩ := hcs
    exact ⟨⟨fun _ => 0, fun i hi => absurd hi (Nat.not_lt_zero i)⟩, Nat.le_refl _, Nat.zero_le _⟩
  · simp [Value.cells] at hcs
    obtain ⟨rfl, rfl, rfl⟩ := hcs
    simp only [if_true] at hz
    refine ⟨⟨fun i => ss.getD i 0, fun i hi => ?_⟩, hl, hm⟩
    obtain ⟨b, off, spot⟩ := x
    have hc0 := hcell 0 (by omega)
    have hspot : spot = none := by simpa [Addr.add] using World.cell?_spot hc0
    subst hspot
    have hci := hcell i (by omega)
    rw [add_plain] at hci
    exact ⟨b, off, rfl, World.block_lt_of_cell? _ _ hci, hci⟩
end Go.Proofs.Qxb6615205a
