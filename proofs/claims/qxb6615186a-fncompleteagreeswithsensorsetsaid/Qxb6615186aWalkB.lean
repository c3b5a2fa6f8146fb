/-
  WALKS: zzBytes, the gathering, the closure, bitmapOf, sensorSet, bitAt.
-/
import Derived.Test.Qxb6615186aWalkA
import Derived.RegionTactic
import Derived.ChangeAlike
import Derived.Laws.BitsAllLaws
namespace Go.Proofs.Qxb6615186a
open Go.RowKit

/-! ### zzBytes -/
theorem zzb23_yes (a : Option Addr) (n cap : Nat) (arr : Int) (w : World) (hn : n ≤ 1048576) :
    Calls Try.prog 23 #[.slice a n cap, .int .i64 arr] w fun e w' => e = .returned (.bool true) ∧ w' = w := by
  go_enter Try.func23, Try.ntmps23
  go_wp2
  go_ret
  exact ⟨rfl, rfl⟩
theorem zzb23_no (a : Option Addr) (n cap : Nat) (arr : Int) (w : World) (hn : ¬ n ≤ 1048576) :
    Calls Try.prog 23 #[.slice a n cap, .int .i64 arr] w fun e w' => e = .returned (.bool false) ∧ w' = w := by
  go_enter Try.func23, Try.ntmps23
  go_wp2
  go_ret
  exact ⟨rfl, rfl⟩

/-! ### the gathering -/
theorem newGathering_any (a : Option Addr) (n c : Nat) (arr : Int) (w : World) :
    Calls Try.prog 25 #[.slice a n c, .int .i64 arr] w fun e w' => e = .returned (.pointer (some ⟨w.heap.size, 0, none⟩)) ∧ w' = w.alloc (.cells #[.slice a n c, .int .i64 arr, .int .u64 0, .int .i64 0, .pointer none] 73) := by
  go_enter Try.func25, Try.ntmps25
  go_wp2
  go_ret
  exact ⟨rfl, rfl⟩

theorem complete_any (g : Nat) (a : Option Addr) (n c : Nat) (arr : Int) (w : World) (h0 : w.cell? ⟨g, 0, none⟩ = some (.slice a n c)) (h1 : w.cell? ⟨g, 1, none⟩ = some (.int .i64 arr)) :
    Calls Try.prog 29 #[.pointer (some ⟨g, 0, none⟩)] w fun e w' => e = .returned (.bool (arr == (n : Int))) ∧ ∃ k, w' = w.drewN k := by
  go_enter Try.func29, Try.ntmps29
  go_wp2
  go_quiet (fail)
  go_wp2
  go_ret
  exact ⟨rfl, _, rfl⟩

theorem zzcomplete_any (g : Nat) (a : Option Addr) (n c : Nat) (arr : Int) (w : World) (h0 : w.cell? ⟨g, 0, none⟩ = some (.slice a n c)) (h1 : w.cell? ⟨g, 1, none⟩ = some (.int .i64 arr)) :
    Calls Try.prog 26 #[.pointer (some ⟨g, 0, none⟩)] w fun e w' => e = .returned (.bool (arr == (n : Int))) ∧ ∃ k, w' = w.drewN k := by
  go_enter Try.func26, Try.ntmps26
  go_wp2_with (go_at_call 29; refine (complete_any g a n c arr _ h0 h1).mono ?_; rintro e w' ⟨rfl, hk⟩)
  go_ret
  exact ⟨rfl, hk⟩

/-! ### the closure -/
theorem closure_any (g b off n c k : Nat) (x : Bool) (w : World) (h0 : w.cell? ⟨g, 0, none⟩ = some (.slice (some ⟨b, off, none⟩) n c)) (hk : k < n) (h1 : w.cell? ⟨b, off + k * 2 + 1, none⟩ = some (.bool x)) :
    Calls Try.prog 31 #[.int .i64 k, .pointer (some ⟨g, 0, none⟩)] w fun e w' => e = .returned (.bool x) ∧ w = w' := by
  go_enter Try.func31, Try.ntmps31
  go_wp2
  go_ret
  exact ⟨rfl, rfl⟩

/-! ### bitmapOf -/
theorem or_msk (x k : Nat) (hx : x < 256) : Go.bits .or .u8 (x : Int) (128 / 2 ^ (k % 8)) = ((x ||| msk k : Nat) : Int) := by
  have e : (128 / 2 ^ (k % 8) : Int) = ((msk k : Nat) : Int) := by simp [msk]
  rw [e]
  exact u8_or_nat x (msk k) hx (msk_lt k)

theorem and_msk (x k : Nat) (hx : x < 256) : (Go.bits .and .u8 (x : Int) (128 / 2 ^ (k % 8)) != 0) = (x &&& msk k != 0) := by
  have e : (128 / 2 ^ (k % 8) : Int) = ((msk k : Nat) : Int) := by simp [msk]
  rw [e, u8_and_nat x (msk k) hx (msk_lt k)]
  rw [Bool.eq_iff_iff, bne_iff_ne, bne_iff_ne]
  omega

theorem bitmapSize_any (n : Nat) (w : World) (hn : n ≤ 65536) :
    Calls Try.prog 36 #[.int .i64 n] w fun e w' => e = .returned (.int .i64 (((n : Int) + 7) / 8)) ∧ w = w' := by
  go_enter Try.func36, Try.ntmps36
  go_wp2
  go_ret
  exact ⟨rfl, rfl⟩

theorem row_hit {w : World} {B n k : Nat} {p : Nat → Bool} (hp : p k = true) (h : w.rowIs B 5 n (fun q => .int .u8 (bm p k q))) :
    ((w.setCell ⟨B, k / 8, none⟩ (.int .u8 (Go.bits .or .u8 (bm p k (k / 8) : Int) (128 / 2 ^ (k % 8))))).drew).rowIs B 5 n (fun q => .int .u8 (bm p (k + 1) q)) := by
  refine ((h.set (k / 8) _).drew).congr fun q _ => ?_
  rw [or_msk _ _ (bm_lt p k (k / 8))]
  simp only [bm]
  by_cases e : q = k / 8
  · subst e; simp [hp]
  · simp [e]

theorem row_miss {w : World} {B n k : Nat} {p : Nat → Bool} (hp : p k = false) (h : w.rowIs B 5 n (fun q => .int .u8 (bm p k q))) :
    w.rowIs B 5 n (fun q => .int .u8 (bm p (k + 1) q)) :=
  h.congr fun q _ => by simp [bm, hp]

set_option maxRecDepth 100000 in
set_option maxHeartbeats 400000 in
theorem bitmap_pos (g b off n c : Nat) (bits : Nat → Nat) (p : Nat → Bool) (w : World) (hg : g < w.heap.size) (hb : b < w.heap.size) (hn : n ≤ 65536) (h0 : w.cell? ⟨g, 0, none⟩ = some (.slice (some ⟨b, off, none⟩) n c))
    (hc : ∀ i, i < n → w.cell? ⟨b, off + i * 2, none⟩ = some (.float .f64 (bits i)) ∧ w.cell? ⟨b, off + i * 2 + 1, none⟩ = some (.bool (p i))) :
    Calls Try.prog 30 #[.int .i64 n, .func (.func 31) #[] #[.pointer (some ⟨g, 0, none⟩)]] w fun e w' => e = .returned (.string (strOfNums ((List.range ((n + 7) / 8)).map fun q => (bm p n q : Int)))) ∧ Below w.heap.size w w' := by
  have hmk := run_make_row' (P := Try.prog) 78 5 (.int .u8 0) 1 Try.underlying78 Try.info5 rfl .i64 .i64 ((n + 7) / 8) (by omega) (by omega)
  rw [show (((n + 7) / 8 : Nat) : Int) = ((n : Int) + 7) / 8 by omega] at hmk
  go_enter Try.func30, Try.ntmps30
  go_wp2_with (go_at_call 36; refine (bitmapSize_any n _ hn).mono ?_; rintro e w' ⟨rfl, rfl⟩)
  go_loopw [11] (fun i wr => ∃ k : Nat, k ≤ n ∧ i = .int .i64 k ∧ Below w.heap.size w wr ∧ wr.rowIs w.heap.size 5 ((n + 7) / 8) (fun q => .int .u8 (bm p k q))) (fun i _ => n - (intOf i).toNat)
  case atStart => exact ⟨0, Nat.zero_le _, rfl, (Below.refl _ _).alloc (Nat.le_refl _) _, World.rowIs_made w (.int .u8 0) _ 5⟩
  case round =>
    obtain ⟨k, hk, rfl, hbel, hrow⟩ := hrel
    by_cases hlt : k < n
    · have g0 := (hbel.cell (p := ⟨g, 0, none⟩) hg).trans h0
      have g1 := (hbel.cell (p := ⟨b, off + k * 2 + 1, none⟩) hb).trans (hc k hlt).2
      have hrow0 := hrow.cell (i := k / 8) (by omega)
      have hz0 := hrow.frozen (k / 8)
      have HR := hid hrow
      clear hmk hc hrow
      by_cases hp : p k = true
      · rw [hp] at g1
        have HP := hid hp
        clear hp
        have q0 : (0 : Int) ≤ (k : Int) / 8 := by omega
        have q1 : (k : Int) / 8 < (((n + 7) / 8 : Nat) : Int) := by omega
        have q2 : ((k : Int) / 8).toNat = k / 8 := by omega
        go_wp2_with (go_at_call 31; refine (closure_any g b off n c k true _ g0 hlt g1).mono ?_; rintro e w' ⟨rfl, rfl⟩)
        go_region
        go_wp2
        go_roundw
        case rel => exact ⟨k + 1, by omega, by go_num, (hbel.setCell (p := ⟨w.heap.size, k / 8, none⟩) (Nat.le_refl _) _).drew, row_hit HP.out HR.out⟩
        case measure => simp [intOf]; omega
      · simp at hp
        rw [hp] at g1
        have HP := hid hp
        clear hp
        go_wp2_with (go_at_call 31; refine (closure_any g b off n c k false _ g0 hlt g1).mono ?_; rintro e w' ⟨rfl, rfl⟩)
        go_roundw
        case rel => exact ⟨k + 1, by omega, by go_num, hbel, row_miss HP.out HR.out⟩
        case measure => simp [intOf]; omega
    · have e : k = n := by omega
      subst e
      have hcv := fun (wx : World) (hx : wx = wr) => run_convert_bytes_arg (P := Try.prog) wx 78 5 Try.underlying78 Try.underlying5 w.heap.size 0 ((k + 7) / 8) ((k + 7) / 8) ((List.range ((k + 7) / 8)).map fun q => (bm p k q : Int)) (by simp) (fun i hi => by
        subst hx
        rw [Nat.zero_add, hrow.cell hi]
        simp [hi]) 9 Try.underlying9
      have hcv := hcv wr rfl
      clear hmk hc hrow
      go_wp2
      go_ret
      exact ⟨rfl, hbel⟩

set_option maxRecDepth 100000 in
theorem bitmap_zero (v : Value) (p : Nat → Bool) (w : World) :
    Calls Try.prog 30 #[.int .i64 0, v] w fun e w' => e = .returned (.string (strOfNums ((List.range ((0 + 7) / 8)).map fun q => (bm p 0 q : Int)))) ∧ Below w.heap.size w w' := by
  have hmk : ∀ w, (Instr.makeSlice 78 (.int .i64 0) (.int .i64 0)).run Try.prog w = .ok (.slice (some ⟨w.heap.size, 0, none⟩) 0 0) (w.alloc (.cells (madeCells #[.int .u8 0] 0) 5)) := run_make_row' (P := Try.prog) 78 5 (.int .u8 0) 1 Try.underlying78 Try.info5 rfl .i64 .i64 0 (by omega) (by omega)
  have hcv := fun (wx : World) => run_convert_bytes_arg (P := Try.prog) wx 78 5 Try.underlying78 Try.underlying5 w.heap.size 0 0 0 [] (by simp) (fun i hi => by omega) 9 Try.underlying9
  go_enter Try.func30, Try.ntmps30
  go_wp2_with (go_at_call 36; go_in)
  refine wp_loop_rounds 1 ?_
  rw [rounds_succ]
  go_wp2
  go_ret
  exact ⟨rfl, (Below.refl _ _).alloc (Nat.le_refl _) _⟩

/-- the bitmap's text -/
def bmText (p : Nat → Bool) (n : Nat) : ByteArray := strOfNums ((List.range ((n + 7) / 8)).map fun q => (bm p n q : Int))
theorem bmText_size (p : Nat → Bool) (n : Nat) : (bmText p n).size = (n + 7) / 8 := by simp [bmText, strOfNums_size]
theorem bmText_get (p : Nat → Bool) (n q : Nat) (h : q < (bmText p n).size) : (bmText p n)[q].toNat = bm p n q := by
  have h' : q < (n + 7) / 8 := by rwa [bmText_size] at h
  have := bm_lt p n q
  show ((bmText p n).data[q]'h).toNat = _
  simp [bmText, strOfNums]
  omega

/-! ### sensorSet -/
theorem sensorSet_any (a : Option Addr) (n c : Nat) (bits : Nat → Nat) (p : Nat → Bool) (w : World) (hn : n ≤ 65536) (h : Ins w a n bits p) :
    Calls Try.prog 27 #[.slice a n c] w fun e w' => e = .returned (.string (bmText p n)) ∧ Below w.heap.size w w' := by
  rcases h with rfl | ⟨b, off, rfl, hb, hc⟩
  · go_enter Try.func27, Try.ntmps27
    go_wp2_with (go_at_call 30; refine (bitmap_zero _ p _).mono ?_; rintro e w' ⟨rfl, hk⟩)
    go_ret
    exact ⟨rfl, ((Below.refl _ _).alloc (Nat.le_refl _) _).trans (hk.mono (by simp))⟩
  · have hc' : ∀ o i, i < n → (w.alloc o).cell? ⟨b, off + i * 2, none⟩ = some (.float .f64 (bits i)) ∧ (w.alloc o).cell? ⟨b, off + i * 2 + 1, none⟩ = some (.bool (p i)) := fun o i hi => by
      rw [World.cell?_alloc_past _ _ _ hb, World.cell?_alloc_past _ _ _ hb]; exact hc i hi
    have H := hid hc'
    clear hc hc'
    go_enter Try.func27, Try.ntmps27
    go_wp2_with fail
    refine (bitmap_pos w.heap.size b off n c bits p _ (by simp) (by simp; omega) hn (by simp) (H.out _)).mono ?_
    rintro e w' ⟨rfl, hk⟩
    go_wp2
    go_ret
    exact ⟨rfl, ((Below.refl _ _).alloc (Nat.le_refl _) _).trans (hk.mono (by simp))⟩

theorem zzsensorSet_any (a : Option Addr) (n c : Nat) (bits : Nat → Nat) (p : Nat → Bool) (w : World) (hn : n ≤ 65536) (h : Ins w a n bits p) :
    Calls Try.prog 10 #[.slice a n c] w fun e w' => e = .returned (.string (bmText p n)) ∧ Below w.heap.size w w' := by
  go_enter Try.func10, Try.ntmps10
  go_wp2_with (go_at_call 27; refine (sensorSet_any a n c bits p _ hn h).mono ?_; rintro e w' ⟨rfl, hk⟩)
  go_ret
  exact ⟨rfl, hk⟩

/-! ### bitAt -/
theorem bitAt_any (s : ByteArray) (k : Nat) (w : World) (hk : k ≤ 65536) (hs : k / 8 < s.size) :
    Calls Try.prog 11 #[.string s, .int .i64 k] w fun e w' => e = .returned (.bool (s[k / 8].toNat &&& msk k != 0)) ∧ w' = w := by
  go_enter Try.func11, Try.ntmps11
  go_wp2
  go_ret
  refine ⟨?_, rfl⟩
  rw [← and_msk _ k (UInt8.toNat_lt _)]
  rfl
end Go.Proofs.Qxb6615186a
