/-
  What the two laws' walks share.
-/
import Derived.Test.Qxb6615205aMarks
import Derived.LaidEqlPtr
namespace Go.Proofs.Qxb6615205a
open Go.RowKit

/-- a script whose steps are S -/
def Steps (w : World) (a : Option Addr) (m : Nat) (S : Nat → Nat) : Prop :=
  ∀ i, i < m → ∃ b off, a = some ⟨b, off, none⟩ ∧ b < w.heap.size ∧ w.cell? ⟨b, off + i, none⟩ = some (.int .i64 (S i))

theorem Steps.of {w : World} {a : Option Addr} {m n : Nat} {z : Nat → Int} (h : Ints w a m z) (hr : ∀ i, i < m → 0 ≤ z i ∧ z i < (n : Int)) :
    ∃ S : Nat → Nat, Steps w a m S ∧ ∀ i, i < m → S i < n := by
  refine ⟨fun j => (z j).toNat, fun i hi => ?_, fun i hi => ?_⟩
  · obtain ⟨b, off, e, lt, hc⟩ := h i hi
    refine ⟨b, off, e, lt, ?_⟩
    rw [hc, Int.toNat_of_nonneg (hr i hi).1]
  · have := hr i hi
    show (z i).toNat < n
    omega

theorem Steps.below {w w' : World} {a : Option Addr} {m : Nat} {S : Nat → Nat} (h : Steps w a m S) {B : Nat} (hb : Below B w w') (hB : w.heap.size ≤ B) : Steps w' a m S := fun i hi => by
  obtain ⟨b, off, e, lt, hc⟩ := h i hi
  exact ⟨b, off, e, Nat.lt_of_lt_of_le lt hb.size, (hb.cell (p := ⟨b, off + i, none⟩) (by simp; omega)).trans hc⟩

theorem rs_start {w w2 : World} {B n : Nat} {cs : Array Value} (hw : w.heap[B]? = some (.cells cs 38 (0, 0))) (hc : cs[7]? = some (.slice none 0 0)) (hb : Below (B + 1) w w2) (hg : Grps w2 B n n (fun _ => false)) :
    RS w2 B n [] (.slice none 0 0) := by
  have hB : w2.heap[B]? = some (.cells cs 38 (0, 0)) := (hb.block B (by omega)).trans hw
  refine ⟨by simp [World.cell?, hB, hc], by simp [World.frozen?, hB], World.ownsRow_nil _ _ _ _, ⟨hg.row, fun i hi => ?_, hg.size⟩⟩
  simpa using hg.mark i hi

theorem RS.grown {w w' : World} {B n F : Nat} {L : List Nat} {v : Value} (h : RS w B n L v) (hg : w.grownBy w' (some F)) (hF : B + 2 + n ≤ F) (hv : v.ownBlock ≠ some F) : RS w' B n L v := by
  have hsz := h.grps.size
  have hb : ∀ k, k < B + 2 + n → w'.heap[k]? = w.heap[k]? := fun k hk => hg.block k (by omega) (by simp; omega)
  obtain ⟨⟨f, hf, hfi⟩, hm, _⟩ := h.grps
  refine ⟨(World.cell?_of_block (a := ⟨B, 7, none⟩) (hb B (by omega))).trans h.fld, (World.frozen?_of_block (a := ⟨B, 7, none⟩) (hb B (by omega))).trans h.fro, h.own.kept hg (.inr hv), ⟨f, hf.of_block (hb (B + 1) (by omega)), hfi⟩, fun i hi => ?_, by have := hg.size; omega⟩
  rw [World.cell?_of_block (a := ⟨B + 2 + i, 4, none⟩) (hb (B + 2 + i) (by omega)), World.frozen?_of_block (a := ⟨B + 2 + i, 4, none⟩) (hb (B + 2 + i) (by omega))]
  exact hm i hi

theorem RS.alloc {w : World} {B n : Nat} {L : List Nat} {v : Value} (h : RS w B n L v) (o : Obj) : RS (w.alloc o) B n L v ∧ v.ownBlock ≠ some w.heap.size ∧ B + 2 + n ≤ w.heap.size := by
  have hne : v.ownBlock ≠ some w.heap.size := by
    intro e
    have := (h.own.lt _ e).2
    omega
  exact ⟨h.grown (World.grownBy_alloc _ _ _) h.grps.size hne, hne, h.grps.size⟩

theorem RS.drewN {w : World} {B n : Nat} {L : List Nat} {v : Value} (h : RS w B n L v) (k : Nat) : RS (w.drewN k) B n L v :=
  ⟨h.fld, h.fro, h.own, ⟨h.grps.row, h.grps.mark, h.grps.size⟩⟩

theorem below_drewN {B : Nat} {a w : World} (h : Below B a w) (k : Nat) : Below B a (w.drewN k) := ⟨h.os, h.tape, h.output, h.size, h.block⟩

theorem RS.pick {w : World} {B n : Nat} {L : List Nat} {v : Value} (h : RS w B n L v) {i : Nat} (hi : i < n) : w.cell? ⟨B + 1, i, none⟩ = some (grp B i) := by
  obtain ⟨⟨f, hf, hfi⟩, _, _⟩ := h.grps
  rw [hf.cell hi, hfi i hi]

theorem RS.lt {w : World} {B n : Nat} {L : List Nat} {v : Value} (h : RS w B n L v) : B + 1 < w.heap.size := by
  have := h.grps.size
  omega

/-- a pointer is not unequal to itself -/
theorem run_neq_ptr_same {P : Program} (w : World) {tp te : TypeId} {j : TypeInfo} (a : Addr) (hp : P.underlying tp = some (.pointer te)) (hte : P.info? te = some j) :
    (binOp .neq tp (.pointer (some a)) (.pointer (some a))).run P w = .ok (.bool false) w := by
  have h : ∀ d : Nat, (Op.equalIn (d + 1) tp (.pointer (some a)) (.pointer (some a))).run P w = .ok true w := fun d => by
    simp [Op.equalIn, run_underlying hp, sizeOf, typeInfo, hte, run_sameAddr_same]
  simp only [binOp]
  simp [Op.equal, Op.maxDepth, h 9999]

theorem info54 : (Try.prog.info? 54).isSome = true := by kernel_rfl
theorem neq41 (w : World) (a : Addr) : (binOp .neq 41 (.pointer (some a)) (.pointer (some a))).run Try.prog w = .ok (.bool false) w := by
  obtain ⟨j, hj⟩ := Option.isSome_iff_exists.1 info54
  exact run_neq_ptr_same w a Try.underlying41 hj
theorem Try.info3 : (Try.prog.info? 3).map (fun i => (i.zero, i.size, i.bytes)) = some (some (.int .i64 0), 1, 8) := by kernel_rfl
end Go.Proofs.Qxb6615205a
