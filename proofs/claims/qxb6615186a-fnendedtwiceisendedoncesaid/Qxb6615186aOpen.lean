/-
  From the reading of a slice of places to what the walks ask.
-/
import Derived.Test.Qxb6615186aLawT
import Derived.WalkKit
import Derived.ProofKit
import Derived.OpenShut
import Derived.ChangeOld
import Derived.Below
import Derived.Deep.Slices
namespace Go.Proofs.Qxb6615186a
open Go.ChangeShapes Go.WideShapes Go.ChangeAt Go.RowKit

theorem ownT : ownKnob Try.prog.godebug = none := by kernel_rfl
theorem laidOutT : laidOutB Try.prog = true := by kernel_rfl
theorem Try.cells46 : Try.prog.cellsOf 46 = 6 := by kernel_rfl
theorem Try.cells3 : Try.prog.cellsOf 3 = 1 := by kernel_rfl
theorem Try.cells4 : Try.prog.cellsOf 4 = 1 := by kernel_rfl

theorem six {α : Type} (l : List α) (h : l.length = 6) : ∃ a b c d e f, l = [a, b, c, d, e, f] := by
  match l, h with
  | [a, b, c, d, e, f], _ => exact ⟨a, b, c, d, e, f, rfl⟩

/-- from the argument's reading to what the walks ask -/
theorem plsIn_of_trod {H : Type} {enc : TypeId × Value → H} {W : World} {a : Option Addr} {len cap : Nat} {d : DataW H} {ps : List MemPlace}
    (h : DataW.Trod enc Try.prog W 0 (fun _ => true) true 35 (.slice a len cap) d ps) : ∃ q, PlsIn W a len q := by
  obtain ⟨fuel, hf⟩ := h
  rcases Deep.open_slice Try.underlying35 hf with ⟨hcs, _⟩ | ⟨x, l, c, m, n, D, Pls, hcs, _, hl, hm, hmm, _, hx⟩
  · simp [Value.cells] at hcs
    obtain ⟨rfl, rfl, rfl⟩ := hcs
    exact ⟨fun _ => ⟨0, false, false, 0, false, false⟩, .inl rfl⟩
  · simp [Value.cells] at hcs
    obtain ⟨rfl, rfl, rfl⟩ := hcs
    simp only [if_true] at hmm
    by_cases h0 : len = 0
    · exact ⟨fun _ => ⟨0, false, false, 0, false, false⟩, .inl h0⟩
    obtain ⟨b, off, spot⟩ := x
    have hspot : spot = none := by
      have pre : ∀ i, i < m → ∃ v0, W.cell? (((⟨b, off, spot⟩ : Addr).add (i * 6)).add 0) = some v0 := by
        intro i hi
        obtain ⟨cs', h1, _⟩ := hx i hi
        rw [Try.cells46] at h1
        obtain ⟨_, hlen, hcell⟩ := World.cells?_some h1
        obtain ⟨v0, v1, v2, v3, v4, v5, rfl⟩ := six cs' hlen
        exact ⟨v0, hcell 0 (by omega)⟩
      obtain ⟨v0, hc0⟩ := pre 0 (by omega)
      have := World.cell?_spot hc0
      simpa [Addr.add] using this
    subst hspot
    have each : ∀ i, i < m → ∃ t : Int × Bool × Bool × Int × Bool × Bool, ∀ j, j < 6 → W.cell? ⟨b, off + i * 6 + j, none⟩ = some (plv ⟨t.1, t.2.1, t.2.2.1, t.2.2.2.1, t.2.2.2.2.1, t.2.2.2.2.2⟩ j) := by
      intro i hi
      obtain ⟨cs', h1, h2⟩ := hx i hi
      rw [Try.cells46] at h1
      obtain ⟨_, hlen, hcell⟩ := World.cells?_some h1
      obtain ⟨xs, k, hk, hxy, _, hxl, hfd⟩ := DataW.trod_struct Try.underlying46 h2
      obtain ⟨v0, v1, v2, v3, v4, v5, rfl⟩ := six cs' hlen
      obtain ⟨y0, y1, y2, y3, y4, y5, rfl⟩ := six xs (by simpa using hxl)
      have g0 := hfd 0 _ rfl
      have g1 := hfd 1 _ rfl
      have g2 := hfd 2 _ rfl
      have g3 := hfd 3 _ rfl
      have g4 := hfd 4 _ rfl
      have g5 := hfd 5 _ rfl
      simp [Try.cells3, Try.cells4] at g0 g1 g2 g3 g4 g5
      obtain ⟨z0, e0, _, _⟩ := DataW.trod_int Try.underlying3 g0
      obtain ⟨z1, e1, _⟩ := DataW.trod_bool Try.underlying4 g1
      obtain ⟨z2, e2, _⟩ := DataW.trod_bool Try.underlying4 g2
      obtain ⟨z3, e3, _, _⟩ := DataW.trod_int Try.underlying3 g3
      obtain ⟨z4, e4, _⟩ := DataW.trod_bool Try.underlying4 g4
      obtain ⟨z5, e5, _⟩ := DataW.trod_bool Try.underlying4 g5
      simp at e0 e1 e2 e3 e4 e5
      subst e0 e1 e2 e3 e4 e5
      refine ⟨(z0, z1, z2, z3, z4, z5), fun j hj => ?_⟩
      have hcj := hcell j (by omega)
      rw [Deep.add_add, add_plain, ← Nat.add_assoc] at hcj
      rw [hcj]
      match j, hj with
      | 0, _ => rfl
      | 1, _ => rfl
      | 2, _ => rfl
      | 3, _ => rfl
      | 4, _ => rfl
      | 5, _ => rfl
    obtain ⟨t, ht⟩ := Deep.choose_lt each
    refine ⟨fun i => ⟨(t i).1, (t i).2.1, (t i).2.2.1, (t i).2.2.2.1, (t i).2.2.2.2.1, (t i).2.2.2.2.2⟩, .inr ⟨b, off, rfl, ?_, fun i hi j hj => ht i (by omega) j hj⟩⟩
    exact World.block_lt_of_cell? _ _ (ht 0 (by omega) 0 (by omega))

end Go.Proofs.Qxb6615186a
