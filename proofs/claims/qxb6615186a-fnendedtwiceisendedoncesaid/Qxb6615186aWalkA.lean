/-
  WALKS: countPresent, allPresent, copyInputs.
-/
import Derived.Test.Qxb6615186aProg
import Derived.Test.Qxb6615186aPlain
import Derived.WalkKit
import Derived.WalkSpells
import Derived.WalkLawsBesides
import Derived.Deep.OwnRows
import Derived.Deep.QuietTactic
import Derived.BigQuiet
import Derived.Laws.BytesArg
namespace Go.Proofs.Qxb6615186a
open Go.RowKit

theorem hid {p : Prop} (h : p) : Hid p := h

/-- WHAT IS KNOWN OF A SLICE OF INPUTS (two cells each): n elements; element i holds the number 'bits i' and the mark 'p i'. -/
def Ins (w : World) (a : Option Addr) (n : Nat) (bits : Nat → Nat) (p : Nat → Bool) : Prop :=
  n = 0 ∨ ∃ b off, a = some ⟨b, off, none⟩ ∧ b < w.heap.size ∧ ∀ i, i < n → w.cell? ⟨b, off + i * 2, none⟩ = some (.float .f64 (bits i)) ∧ w.cell? ⟨b, off + i * 2 + 1, none⟩ = some (.bool (p i))

theorem Ins.below {w w' : World} {a : Option Addr} {n : Nat} {bits : Nat → Nat} {p : Nat → Bool} (h : Ins w a n bits p) {B : Nat} (hb : Below B w w') (hB : w.heap.size ≤ B) : Ins w' a n bits p := by
  rcases h with h | ⟨b, off, rfl, hlt, hc⟩
  · exact .inl h
  · refine .inr ⟨b, off, rfl, Nat.lt_of_lt_of_le hlt hb.size, fun i hi => ?_⟩
    rw [hb.cell (p := ⟨b, off + i * 2, none⟩) (by simp; omega), hb.cell (p := ⟨b, off + i * 2 + 1, none⟩) (by simp; omega)]
    exact hc i hi


/-! ### countPresent -/
set_option maxHeartbeats 400000 in
theorem count_pos (b off n cap : Nat) (p : Nat → Bool) (w : World) (hn : n ≤ 65536)
    (hc : ∀ i, i < n → w.cell? ⟨b, off + i * 2 + 1, none⟩ = some (.bool (p i))) :
    Calls Try.prog 12 #[.slice (some ⟨b, off, none⟩) n cap] w fun e w' => e = .returned (.int .i64 (cnt p n)) ∧ w' = w := by
  go_enter Try.func12, Try.ntmps12
  go_wp2
  go_loop [3, 4] (fun t i => ∃ k : Nat, k ≤ n ∧ i = .int .i64 k ∧ t = .int .i64 (cnt p k)) (fun _ i => n - (intOf i).toNat)
  case atStart => exact ⟨0, Nat.zero_le _, rfl, rfl⟩
  case round =>
    obtain ⟨k, hk, rfl, rfl⟩ := hrel
    have hle := cnt_le p k
    by_cases hlt : k < n
    · have hck := hc k hlt
      by_cases hp : p k = true
      · rw [hp] at hck
        have HS := hid (show cnt p (k + 1) = cnt p k + 1 by simp [cnt, hp])
        clear hp hc
        go_wp2
        go_round
        case rel => exact ⟨k + 1, by omega, by go_num, by rw [HS.out]; go_num⟩
        case measure => simp [intOf]; omega
      · simp at hp
        rw [hp] at hck
        have HS := hid (show cnt p (k + 1) = cnt p k by simp [cnt, hp])
        clear hp hc
        go_wp2
        go_round
        case rel => exact ⟨k + 1, by omega, by go_num, by rw [HS.out]⟩
        case measure => simp [intOf]; omega
    · have : k = n := by omega
      subst this
      go_wp2
      go_ret
      exact ⟨rfl, rfl⟩

theorem count_zero (a : Option Addr) (cap : Nat) (w : World) :
    Calls Try.prog 12 #[.slice a 0 cap] w fun e w' => e = .returned (.int .i64 0) ∧ w' = w := by
  go_enter Try.func12, Try.ntmps12
  go_wp2
  refine wp_loop_rounds 1 ?_
  rw [rounds_succ]
  go_wp2
  go_ret
  exact ⟨rfl, rfl⟩

theorem count_any (a : Option Addr) (n cap : Nat) (bits : Nat → Nat) (p : Nat → Bool) (w : World) (hn : n ≤ 65536) (h : Ins w a n bits p) :
    Calls Try.prog 12 #[.slice a n cap] w fun e w' => e = .returned (.int .i64 (cnt p n)) ∧ w' = w := by
  rcases h with rfl | ⟨b, off, rfl, hb, hc⟩
  · exact count_zero a cap w
  · exact count_pos b off n cap p w hn (fun i hi => (hc i hi).2)

/-! ### allPresent -/
set_option maxHeartbeats 400000 in
theorem all_pos (b off n cap : Nat) (p : Nat → Bool) (w : World) (hn : n ≤ 65536)
    (hc : ∀ i, i < n → w.cell? ⟨b, off + i * 2 + 1, none⟩ = some (.bool (p i))) :
    Calls Try.prog 24 #[.slice (some ⟨b, off, none⟩) n cap] w fun e w' => e = .returned (.bool (allB p n)) ∧ w' = w := by
  go_enter Try.func24, Try.ntmps24
  go_wp2
  go_loop [3] (fun i => ∃ k : Nat, k ≤ n ∧ i = .int .i64 k ∧ Hid (∀ j, j < k → p j = true)) (fun i => n - (intOf i).toNat)
  case atStart => exact ⟨0, Nat.zero_le _, rfl, hid (fun j hj => by omega)⟩
  case round =>
    obtain ⟨k, hk, rfl, H⟩ := hrel
    by_cases hlt : k < n
    · have hck := hc k hlt
      by_cases hp : p k = true
      · rw [hp] at hck
        have HS := hid (show ∀ j, j < k + 1 → p j = true from fun j hj => by
          by_cases e : j = k
          · subst e; exact hp
          · exact H.out j (by omega))
        clear hp hc
        go_wp2
        go_round
        case rel => exact ⟨k + 1, by omega, by go_num, HS⟩
        case measure => simp [intOf]; omega
      · simp at hp
        rw [hp] at hck
        have HS := hid (allB_false p n k hlt hp)
        clear hp hc
        go_wp2
        go_ret
        exact ⟨by rw [HS.out]; rfl, rfl⟩
    · have : k = n := by omega
      subst this
      have HS := hid ((allB_iff p k).2 H.out)
      go_wp2
      go_ret
      exact ⟨by rw [HS.out]; rfl, rfl⟩

theorem all_zero (a : Option Addr) (cap : Nat) (w : World) :
    Calls Try.prog 24 #[.slice a 0 cap] w fun e w' => e = .returned (.bool true) ∧ w' = w := by
  go_enter Try.func24, Try.ntmps24
  go_wp2
  refine wp_loop_rounds 1 ?_
  rw [rounds_succ]
  go_wp2
  go_ret
  exact ⟨rfl, rfl⟩

theorem all_any (a : Option Addr) (n cap : Nat) (bits : Nat → Nat) (p : Nat → Bool) (w : World) (hn : n ≤ 65536) (h : Ins w a n bits p) :
    Calls Try.prog 24 #[.slice a n cap] w fun e w' => e = .returned (.bool (allB p n)) ∧ w' = w := by
  rcases h with rfl | ⟨b, off, rfl, hb, hc⟩
  · exact all_zero a cap w
  · exact all_pos b off n cap p w hn (fun i hi => (hc i hi).2)

/-! ### copyInputs -/
theorem Try.info28 : (Try.prog.info? 28).map (fun i => (i.zero, i.size, i.bytes)) = some (some (.agg #[.float .f64 0, .bool false]), 2, 16) := by kernel_rfl
theorem Try.info5 : (Try.prog.info? 5).map (fun i => (i.zero, i.size, i.bytes)) = some (some (.int .u8 0), 1, 1) := by kernel_rfl

theorem run_make_pairs (n : Nat) (hn : n ≤ 65536) (w : World) :
    (Instr.makeSlice 24 (.int .i64 (n : Int)) (.int .i64 (n : Int))).run Try.prog w = .ok (.slice (some ⟨w.heap.size, 0, none⟩) n n) (w.alloc (.cells (madeCells #[.float .f64 0, .bool false] (n * 2)) 28)) := by
  obtain ⟨i, hi, hzz⟩ := Option.map_eq_some_iff.1 Try.info28
  simp only [Prod.mk.injEq] at hzz
  obtain ⟨hz, hs, hb⟩ := hzz
  have hr := run_make (P := Try.prog) w 24 28 i _ Try.underlying24 hi hz .i64 .i64 n n (by omega) (Int.le_refl _) (by rw [hb]; omega) (by omega)
  simp only [Int.toNat_natCast, hs, Value.cells] at hr
  exact hr

theorem rowIs_pairs (w : World) (n : Nat) : ∃ f, (w.alloc (.cells (madeCells #[.float .f64 0, .bool false] (n * 2)) 28)).rowIs w.heap.size 28 (n * 2) f := by
  refine ⟨fun i => (#[Value.float .f64 0, .bool false])[i % 2]!, _, Deep.blk_alloc_new _ _, size_madeCells _ _, fun i hi => ?_⟩
  simp [madeCells, hi]

set_option maxHeartbeats 400000 in
set_option maxRecDepth 100000 in
theorem copy_pos (b off n cap : Nat) (bits : Nat → Nat) (p : Nat → Bool) (w : World) (hn : n ≤ 65536) (hb : b < w.heap.size)
    (hc : ∀ i, i < n → w.cell? ⟨b, off + i * 2, none⟩ = some (.float .f64 (bits i)) ∧ w.cell? ⟨b, off + i * 2 + 1, none⟩ = some (.bool (p i))) :
    Calls Try.prog 9 #[.slice (some ⟨b, off, none⟩) n cap] w fun e w' => e = .returned (.slice (some ⟨w.heap.size, 0, none⟩) n n) ∧ Below w.heap.size w w' ∧ Ins w' (some ⟨w.heap.size, 0, none⟩) n bits p := by
  have hmk := run_make_pairs n hn
  have hq : ∀ (w : World) (a : Option Addr) (n c n' c' : Nat), (binOp .eql 22 (.slice a n c) (.slice none n' c')).run Try.prog w = .ok (.bool a.isNone) w := fun w a n c n' c' => Lib.run_eql_slice_nil w _ _ a n c n' c' Try.underlying22
  obtain ⟨f0, hf0⟩ := rowIs_pairs w n
  have Hf0 := hid hf0; clear hf0
  have hsf : ∀ (w : World) (a : Addr) (x : Nat) (m : Mode), (store a (.float .f64 x) m).run Try.prog w = stored Try.prog w a (.float .f64 x) m := fun w a x m => run_store Try.prog w a _ m rfl
  go_enter Try.func9, Try.ntmps9
  go_wp2
  go_loopw [4] (fun i wr => ∃ k : Nat, k ≤ n ∧ i = .int .i64 k ∧ Below w.heap.size w wr ∧ ∃ f, wr.rowIs w.heap.size 28 (n * 2) f ∧ ∀ j, j < k → f (j * 2) = .float .f64 (bits j) ∧ f (j * 2 + 1) = .bool (p j)) (fun i _ => n - (intOf i).toNat)
  case atStart => exact ⟨0, Nat.zero_le _, rfl, (Below.refl _ _).alloc (Nat.le_refl _) _, f0, Hf0.out, fun j hj => by omega⟩
  case round =>
    obtain ⟨k, hk, rfl, hbel, f, hf, hfk⟩ := hrel
    by_cases hlt : k < n
    · have h0 := (hbel.cell (p := ⟨b, off + k * 2, none⟩) hb).trans (hc k hlt).1
      have h1 := (hbel.cell (p := ⟨b, off + k * 2 + 1, none⟩) hb).trans (hc k hlt).2
      have g0 := hf.cell (i := k * 2) (by omega)
      have g1 := hf.cell (i := k * 2 + 1) (by omega)
      have z0 := hf.frozen (k * 2)
      have z1 := hf.frozen (k * 2 + 1)
      clear hc hmk hq
      go_wp2
      go_roundw
      case rel =>
        refine ⟨k + 1, by omega, by go_num, (hbel.setCell (p := ⟨w.heap.size, k * 2, none⟩) (Nat.le_refl _) _).setCell (p := ⟨w.heap.size, k * 2 + 1, none⟩) (Nat.le_refl _) _, _, (hf.set (k * 2) (.float .f64 (bits k))).set (k * 2 + 1) (.bool (p k)), fun j hj => ?_⟩
        by_cases e : j = k
        · subst e
          simp
        · have := hfk j (by omega)
          rw [if_neg (by omega), if_neg (by omega), if_neg (by omega), if_neg (by omega)]
          exact this
      case measure => simp [intOf]; omega
    · have e : k = n := by omega
      subst e
      have R : Ins wr (some ⟨w.heap.size, 0, none⟩) k bits p := .inr ⟨w.heap.size, 0, rfl, hf.lt, fun i hi => by
        rw [Nat.zero_add, hf.cell (i := i * 2) (by omega), hf.cell (i := i * 2 + 1) (by omega), (hfk i hi).1, (hfk i hi).2]
        exact ⟨rfl, rfl⟩⟩
      clear hc hmk hq hf hfk
      go_wp2
      go_ret
      exact ⟨rfl, hbel, R⟩

set_option maxRecDepth 100000 in
theorem copy_zero (a : Option Addr) (cap : Nat) (bits : Nat → Nat) (p : Nat → Bool) (w : World) :
    Calls Try.prog 9 #[.slice a 0 cap] w fun e w' => ∃ a', e = .returned (.slice a' 0 0) ∧ Below w.heap.size w w' ∧ Ins w' a' 0 bits p := by
  have hmk : ∀ w, (Instr.makeSlice 24 (.int .i64 0) (.int .i64 0)).run Try.prog w = .ok (.slice (some ⟨w.heap.size, 0, none⟩) 0 0) (w.alloc (.cells (madeCells #[.float .f64 0, .bool false] (0 * 2)) 28)) := run_make_pairs 0 (by omega)
  have hq : ∀ (w : World) (a : Option Addr) (n c n' c' : Nat), (binOp .eql 22 (.slice a n c) (.slice none n' c')).run Try.prog w = .ok (.bool a.isNone) w := fun w a n c n' c' => Lib.run_eql_slice_nil w _ _ a n c n' c' Try.underlying22
  cases a with
  | none =>
    go_enter Try.func9, Try.ntmps9
    go_wp2
    go_ret
    exact ⟨none, rfl, Below.refl _ _, .inl rfl⟩
  | some x =>
    go_enter Try.func9, Try.ntmps9
    go_wp2
    refine wp_loop_rounds 1 ?_
    rw [rounds_succ]
    go_wp2
    go_ret
    exact ⟨_, rfl, (Below.refl _ _).alloc (Nat.le_refl _) _, .inl rfl⟩

/-- copyInputs: a copy in new memory, the same marks. -/
theorem copy_any (a : Option Addr) (n cap : Nat) (bits : Nat → Nat) (p : Nat → Bool) (w : World) (hn : n ≤ 65536) (h : Ins w a n bits p) :
    Calls Try.prog 9 #[.slice a n cap] w fun e w' => ∃ a', e = .returned (.slice a' n n) ∧ Below w.heap.size w w' ∧ Ins w' a' n bits p := by
  rcases h with rfl | ⟨b, off, rfl, hb, hc⟩
  · exact copy_zero a cap bits p w
  · exact (copy_pos b off n cap bits p w hn hb hc).mono fun e w' h => ⟨_, h⟩
end Go.Proofs.Qxb6615186a
