/-
  ZZnewChannelPlacement walked: a placement in new memory.
-/
import Derived.Test.Qxb6615186aPlaces
import Derived.BigRegion
import Derived.Conc.SmallLaws
namespace Go.Proofs.Qxb6615186a
open Go.RowKit

/-- A PLACEMENT IN MEMORY: its own block c (the lock free), its PMUs' row g, its channel h (open). -/
structure Placed (w : World) (c g h n : Nat) (sens : Int) (q : Nat → Pl) : Prop where
  obj : w.heap[c]? = some (.cells #[.int .i32 0, .int .u32 0, .int .i64 sens, .slice (some ⟨g, 0, none⟩) n n, .chan (some h)] 66 (0, 0))
  row : PlRow w g 57 n n q
  chan : w.heap[h]? = some (.chan 0 #[] false 0 0 false)

theorem Try.info58 : (Try.prog.info? 58).map (fun i => i.bytes) = some 0 := by kernel_rfl
theorem run_makeChan41 (w : World) : (Instr.makeChan 41 (.int .i64 0)).run Try.prog w = .ok (.chan (some w.heap.size)) (w.alloc (.chan 0 #[] false 0 0 false)) := by
  obtain ⟨i, hi, hb⟩ := Option.map_eq_some_iff.1 Try.info58
  exact Conc.run_makeChan Try.underlying41 hi .i64 0 (by omega) (by rw [hb]; omega)

theorem PlRow.of_block {w w' : World} {g t n k : Nat} {q : Nat → Pl} (h : PlRow w g t n k q) (e : w'.heap[g]? = w.heap[g]?) : PlRow w' g t n k q := by
  obtain ⟨f, hf, hq⟩ := h
  exact ⟨f, hf.of_block e, hq⟩
theorem PlRow.drew {w : World} {g t n k : Nat} {q : Nat → Pl} (h : PlRow w g t n k q) : PlRow w.drew g t n k q := by
  obtain ⟨f, hf, hq⟩ := h
  exact ⟨f, hf.drew, hq⟩
theorem PlRow.alloc {w : World} {g t n k : Nat} {q : Nat → Pl} (h : PlRow w g t n k q) (o : Obj) : PlRow (w.alloc o) g t n k q := by
  obtain ⟨f, hf, hq⟩ := h
  exact ⟨f, hf.alloc o, hq⟩

theorem placed_new {w : World} {g n : Nat} {sens : Int} {q : Nat → Pl} (h : PlRow w g 57 n n q) :
    Placed ((w.alloc (.chan 0 #[] false 0 0 false)).alloc (.cells #[.int .i32 0, .int .u32 0, .int .i64 sens, .slice (some ⟨g, 0, none⟩) n n, .chan (some w.heap.size)] 66)) (w.heap.size + 1) g w.heap.size n sens q := by
  refine ⟨?_, (h.alloc _).alloc _, ?_⟩
  · have := Deep.blk_alloc_new (w.alloc (.chan 0 #[] false 0 0 false)) (.cells #[.int .i32 0, .int .u32 0, .int .i64 sens, .slice (some ⟨g, 0, none⟩) n n, .chan (some w.heap.size)] 66)
    simpa using this
  · rw [Deep.blk_alloc_lt _ _ _ (by simp), Deep.blk_alloc_new]

set_option maxHeartbeats 1000000 in
set_option maxRecDepth 100000 in
theorem newPl_any (sens : Int) (b n : Nat) (q : Nat → Pl) (w : World) (hn : n ≤ 32768) (hb : b < w.heap.size) (hq : Pls w b 0 n q) :
    Calls Try.prog 15 #[.int .i64 sens, .slice (some ⟨b, 0, none⟩) n n] w fun e w' => ∃ c g h, e = .returned (.pointer (some ⟨c, 0, none⟩)) ∧ w.heap.size ≤ c ∧ w.heap.size ≤ g ∧ w.heap.size ≤ h ∧ Below w.heap.size w w' ∧ Placed w' c g h n sens q := by
  have hmk := run_make_pl54 n (by omega)
  have hq0 : ∀ (w : World) (a : Option Addr) (n c n' c' : Nat), (binOp .neq 39 (.slice a n c) (.slice none n' c')).run Try.prog w = .ok (.bool (!a.isNone)) w := fun w a n c n' c' => run_neq_slice_nil_any w _ _ a n c n' c' Try.underlying39
  have H0 := hid (plRow_made w 57 n q)
  have HQ := hid hq
  clear hq
  go_enter Try.func15, Try.ntmps15
  go_wp2
  go_loopw [6] (fun i wr => ∃ k : Nat, k ≤ n ∧ i = .int .i64 k ∧ Below w.heap.size w wr ∧ PlRow wr w.heap.size 57 n k q) (fun i _ => n - (intOf i).toNat)
  case atStart => exact ⟨0, Nat.zero_le _, rfl, (Below.refl _ _).alloc (Nat.le_refl _) _, H0.out⟩
  case round =>
    obtain ⟨k, hk, rfl, hbel, hrow⟩ := hrel
    by_cases hlt : k < n
    · obtain ⟨c0, c1, c2, c3, c4, c5⟩ := (HQ.out.below hbel hb).at hlt
      rw [Nat.zero_add] at c0 c1 c2 c3 c4 c5
      obtain ⟨v0, d0⟩ := hrow.some (i := k * 6) (by omega)
      obtain ⟨v1, d1⟩ := hrow.some (i := k * 6 + 1) (by omega)
      obtain ⟨v2, d2⟩ := hrow.some (i := k * 6 + 2) (by omega)
      obtain ⟨v3, d3⟩ := hrow.some (i := k * 6 + 3) (by omega)
      obtain ⟨v4, d4⟩ := hrow.some (i := k * 6 + 4) (by omega)
      obtain ⟨v5, d5⟩ := hrow.some (i := k * 6 + 5) (by omega)
      have z := hrow.frozen
      have HR := hid hrow.put
      have i0 : (0 : Int) ≤ (k : Int) := by omega
      have i1 : (k : Int) < (n : Int) := by omega
      clear hmk hq0 hrow
      go_wp2
      go_region
      go_wp2
      go_roundw
      case rel => exact ⟨k + 1, by omega, by go_num, (Below.put6 hbel (Nat.le_refl _) _ _ _ _ _ _ _ _ _ _ _ _).drew, HR.out.drew⟩
      case measure => simp [intOf]; omega
    · have e : k = n := by omega
      subst e
      have HR := hid hrow
      have hmc := run_makeChan41
      clear hmk hq0 hrow
      go_wp2
      go_ret
      exact ⟨_, _, _, rfl, by have := hbel.size; omega, Nat.le_refl _, hbel.size, (hbel.alloc hbel.size _).alloc (by have := hbel.size; simp; omega) _, placed_new HR.out⟩
end Go.Proofs.Qxb6615186a
