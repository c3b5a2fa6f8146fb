/-
  distinctSteps walked.
-/
import Derived.Test.Qxb6615205aShare
namespace Go.Proofs.Qxb6615205a
open Go.RowKit

theorem Try.info4 : (Try.prog.info? 4).map (fun i => (i.zero, i.size, i.bytes)) = some (some (.bool false), 1, 1) := by kernel_rfl

set_option maxHeartbeats 1000000 in
set_option maxRecDepth 100000 in
theorem distinct_any (a : Option Addr) (n m c : Nat) (S : Nat → Nat) (w : World) (hn : n ≤ 65536) (hm : m ≤ 65536) (hs : Steps w a m S) (hS : ∀ i, i < m → S i < n) :
    Calls Try.prog 14 #[.int .i64 n, .slice a m c] w fun e w' => e = .returned (.int .i64 (Lk S m).length) ∧ Below w.heap.size w w' := by
  have HT := hid hs
  have HN := hid hS
  have hmk := run_make_row' (P := Try.prog) 55 4 (.bool false) 1 Try.underlying55 Try.info4 rfl .i64 .i64 n (by omega) (by omega)
  have MA := hid (World.rowIs_made w (.bool false) n 4)
  clear hs hS
  go_enter Try.func14, Try.ntmps14
  go_wp2
  go_loopw [6, 7] (fun t i wr => ∃ k : Nat, k ≤ m ∧ i = .int .i64 k ∧ t = .int .i64 (Lk S k).length ∧ Below w.heap.size w wr ∧ wr.rowIs w.heap.size 4 n (fun x => .bool (decide (x ∈ Lk S k)))) (fun _ i _ => m - (intOf i).toNat)
  case atStart => exact ⟨0, Nat.zero_le _, rfl, rfl, (Below.refl _ _).alloc (Nat.le_refl _) _, MA.out.congr (fun x hx => by simp [Lk])⟩
  case round =>
    obtain ⟨k, hk, rfl, rfl, hbel, hM⟩ := hrel
    have HB := hid hbel
    have HM := hid hM
    have lF := hM.lt
    clear hbel hM hmk
    have lk := Lk_len S k
    by_cases hlt : k < m
    · obtain ⟨b, off, ea, lt, hc⟩ := HT.out.below HB.out (Nat.le_refl _) k hlt
      subst ea
      have hk3 := HN.out k hlt
      have d1 := HM.out.cell hk3
      have d2 := HM.out.frozen (S k)
      have i1 : (k : Int) < (m : Int) := by omega
      have i2 : (0 : Int) ≤ (S k : Int) := by omega
      have i3 : (S k : Int) < (n : Int) := by omega
      have hbk : w.heap.size ≠ b := by
        obtain ⟨b', off', ea', lt', _⟩ := HT.out k hlt
        cases ea'
        omega
      by_cases hin : S k ∈ Lk S k
      · have HE := hid (Lk_again S k hin)
        simp only [hin, decide_true] at d1
        clear hin
        go_wp2
        go_roundw
        case rel => exact ⟨k + 1, by omega, by go_num, by rw [HE.out], HB.out, by rw [HE.out]; exact HM.out⟩
        case measure => simp [intOf]; omega
      · have HL := hid (Lk_first S k m hlt hin).2.2
        have HI := hid hin
        simp only [hin, decide_false] at d1
        clear hin
        go_wp2
        go_roundw
        case rel => exact ⟨k + 1, by omega, by go_num, by rw [HL.out]; go_num, HB.out.setCell (by simp) _, (HM.out.set (S k) _).congr (fun x hx => by
          by_cases e : x = S k
          · simp [e, Lk, mem_addOnce]
          · simp [e, Lk, mem_addOnce])⟩
        case measure => simp [intOf]; omega
    · have e : Hid ((Lk S k).length = (Lk S m).length) := by rw [show k = m by omega]; exact rfl
      go_wp2
      go_ret
      refine ⟨?_, HB.out⟩
      exact congrArg (fun x : Nat => Ending.returned (Value.int .i64 x)) e.out
end Go.Proofs.Qxb6615205a
