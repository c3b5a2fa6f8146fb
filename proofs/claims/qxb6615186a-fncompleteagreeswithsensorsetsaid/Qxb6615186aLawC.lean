/-
  THE LAW FnCompleteAgreesWithSensorSet, walked out of its callees' contracts.
-/
import Derived.Test.Qxb6615186aWalkB
namespace Go.Proofs.Qxb6615186a
open Go.RowKit

/-- is bit i set for every i below n -/
theorem full_step (p : Nat → Bool) (n k : Nat) (hk : k < n) (h : k / 8 < (bmText p n).size) : ((bmText p n)[k / 8].toNat &&& msk k != 0) = p k := by
  rw [bmText_get, bm_bit]
  simp [hk]

set_option maxHeartbeats 1000000 in
set_option maxRecDepth 100000 in
theorem law7 (a : Option Addr) (n cap : Nat) (bits : Nat → Nat) (p : Nat → Bool) (arr : Int) (w : World) (hn : n ≤ 65536) (hI : Ins w a n bits p) (harr : arr = (cnt p n : Int)) :
    Calls Try.prog 7 #[.slice a n cap, .int .i64 arr] w fun e w' => e = .returned (.bool true) ∧ Below w.heap.size w w' := by
  have hcn := cnt_le p n
  have hfull : (arr == (n : Int)) = allB p n := by
    subst harr
    rw [Bool.eq_iff_iff, beq_iff_eq, ← cnt_full]
    omega
  subst harr
  have HF := hid hfull
  have HI := hid hI
  clear hfull hI
  have hd0 : decide ((65536 : Int) < (n : Int)) = false := by simp; omega
  go_enter Try.func7, Try.ntmps7
  go_wp2_with fail
  refine (zzb23_yes a n cap _ _ (by omega)).mono ?_
  rintro e w1 ⟨rfl, hw⟩
  obtain rfl := hw.symm
  go_wp2_with fail
  refine (count_any a n cap bits p _ hn HI.out).mono ?_
  rintro e w1 ⟨rfl, hw⟩
  obtain rfl := hw.symm
  go_wp2_with fail
  refine (all_any a n cap bits p _ hn HI.out).mono ?_
  rintro e w1 ⟨rfl, hw⟩
  obtain rfl := hw.symm
  go_wp2_with fail
  refine (copy_any a n cap bits p _ hn HI.out).mono ?_
  rintro e w1 ⟨a1, rfl, hb1, hI1⟩
  go_wp2_with fail
  refine (newGathering_any a1 n n _ _).mono ?_
  rintro e w2 ⟨rfl, rfl⟩
  go_wp2_with fail
  refine (zzcomplete_any w1.heap.size a1 n n (cnt p n) _ (by simp) (by simp)).mono ?_
  rintro e w2 ⟨rfl, kd, rfl⟩
  rw [HF.out]
  have hb2 : Below w.heap.size w ((w1.alloc (.cells #[.slice a1 n n, .int .i64 (cnt p n), .int .u64 0, .int .i64 0, .pointer none] 73)).drewN kd) := 
    below_drewN (hb1.alloc hb1.size _) _
  have hI2 : Ins ((w1.alloc (.cells #[.slice a1 n n, .int .i64 (cnt p n), .int .u64 0, .int .i64 0, .pointer none] 73)).drewN kd) a n bits p := HI.out.below hb2 (Nat.le_refl _)
  generalize ((w1.alloc (.cells #[.slice a1 n n, .int .i64 (cnt p n), .int .u64 0, .int .i64 0, .pointer none] 73)).drewN kd) = w2 at hb2 hI2 ⊢
  have HI2 := hid hI2
  clear hI2
  go_wp2_with fail
  refine (copy_any a n cap bits p _ hn HI2.out).mono ?_
  rintro e w3 ⟨a3, rfl, hb3, hI3⟩
  go_wp2_with fail
  refine (zzsensorSet_any a3 n n bits p _ hn hI3).mono ?_
  rintro e w4 ⟨rfl, hb4⟩
  have hsz := bmText_size p n
  go_wp2_with fail
  go_loop [10, 11] (fun f i => ∃ k : Nat, k ≤ n ∧ i = .int .i64 k ∧ f = .bool (allB p k)) (fun _ i => n - (intOf i).toNat)
  case atStart => exact ⟨0, Nat.zero_le _, rfl, rfl⟩
  case round =>
    obtain ⟨k, hk, rfl, rfl⟩ := hrel
    by_cases hlt : k < n
    · have hs : k / 8 < (bmText p n).size := by rw [hsz]; omega
      have hbit := bitAt_any (bmText p n) k w4 (by omega) hs
      rw [full_step p n k hlt hs] at hbit
      clear hsz
      cases hp : p k with
      | true =>
        rw [hp] at hbit
        have HS := hid (show allB p (k + 1) = allB p k by simp [allB, hp])
        have HB := hid hbit
        clear hp hbit
        go_wp2_with (go_at_call 11; refine (HB.out).mono ?_; rintro e w' ⟨rfl, rfl⟩)
        go_round
        case rel => exact ⟨k + 1, by omega, by go_num, by rw [HS.out]⟩
        case measure => simp [intOf]; omega
      | false =>
        rw [hp] at hbit
        have HS := hid (show allB p (k + 1) = false by simp [allB, hp])
        have HB := hid hbit
        clear hp hbit
        go_wp2_with (go_at_call 11; refine (HB.out).mono ?_; rintro e w' ⟨rfl, rfl⟩)
        go_round
        case rel => exact ⟨k + 1, by omega, by go_num, by rw [HS.out]⟩
        case measure => simp [intOf]; omega
    · have e : k = n := by omega
      subst e
      have HB := hid ((hb2.trans (hb3.mono hb2.size)).trans (hb4.mono (Nat.le_trans hb2.size hb3.size)))
      clear hb2 hb3 hb4 hb1 hI1 hI3 hsz
      go_wp2
      go_ret
      exact ⟨by simp, HB.out⟩

theorem law7_huge (a : Option Addr) (n cap : Nat) (arr : Int) (w : World) (hn : ¬ n ≤ 1048576) :
    Calls Try.prog 7 #[.slice a n cap, .int .i64 arr] w fun e w' => e = .returned (.bool true) ∧ Below w.heap.size w w' := by
  go_enter Try.func7, Try.ntmps7
  go_wp2_with (go_at_call 23; refine (zzb23_no a n cap _ _ hn).mono ?_; rintro e w1 ⟨rfl, rfl⟩)
  go_ret
  exact ⟨rfl, Below.refl _ _⟩

theorem law7_large (a : Option Addr) (n cap : Nat) (arr : Int) (w : World) (hn : n ≤ 1048576) (hn2 : ¬ n ≤ 65536) :
    Calls Try.prog 7 #[.slice a n cap, .int .i64 arr] w fun e w' => e = .returned (.bool true) ∧ Below w.heap.size w w' := by
  go_enter Try.func7, Try.ntmps7
  go_wp2_with (go_at_call 23; refine (zzb23_yes a n cap _ _ hn).mono ?_; rintro e w1 ⟨rfl, rfl⟩)
  go_ret
  exact ⟨rfl, Below.refl _ _⟩

theorem law7_other (a : Option Addr) (n cap : Nat) (bits : Nat → Nat) (p : Nat → Bool) (arr : Int) (w : World) (hn : n ≤ 65536) (hI : Ins w a n bits p) (harr : arr ≠ (cnt p n : Int)) :
    Calls Try.prog 7 #[.slice a n cap, .int .i64 arr] w fun e w' => e = .returned (.bool true) ∧ Below w.heap.size w w' := by
  have hne : (arr != (cnt p n : Int)) = true := by simpa using harr
  clear harr
  have HI := hid hI
  clear hI
  go_enter Try.func7, Try.ntmps7
  go_wp2_with fail
  refine (zzb23_yes a n cap _ _ (by omega)).mono ?_
  rintro e w1 ⟨rfl, hw⟩
  obtain rfl := hw.symm
  go_wp2_with fail
  refine (count_any a n cap bits p _ hn HI.out).mono ?_
  rintro e w1 ⟨rfl, hw⟩
  obtain rfl := hw.symm
  go_wp2
  go_ret
  exact ⟨rfl, Below.refl _ _⟩

/-- THE LAW, at every input. -/
theorem law7_any (a : Option Addr) (n cap : Nat) (bits : Nat → Nat) (p : Nat → Bool) (arr : Int) (w : World) (hI : Ins w a n bits p) :
    Calls Try.prog 7 #[.slice a n cap, .int .i64 arr] w fun e w' => e = .returned (.bool true) ∧ Below w.heap.size w w' := by
  by_cases h1 : n ≤ 1048576
  · by_cases h2 : n ≤ 65536
    · by_cases h3 : arr = (cnt p n : Int)
      · exact law7 a n cap bits p arr w h2 hI h3
      · exact law7_other a n cap bits p arr w h2 hI h3
    · exact law7_large a n cap arr w h1 h2
  · exact law7_huge a n cap arr w h1
end Go.Proofs.Qxb6615186a
