/-
  utoa walked: it writes the decimal text.
-/
import Derived.Test.Qxb6615192aDoorDec
namespace Go.Proofs.Qxb6615192aDoor
open Go.RowKit

theorem utoa_zero (w : World) : Calls Tryd.prog 7 #[.int .u64 0] w fun e w' => e = .returned (.string ⟨#[48]⟩) ∧ w = w' := by
  go_enter Tryd.func7, Tryd.ntmps7
  go_wp2
  go_ret
  exact ⟨rfl, rfl⟩

/-- the buffer's cells from i on hold n's digits -/
def DigRow (w : World) (g n i : Nat) : Prop := ∃ f, w.rowIs g 28 20 f ∧ ∀ j, i ≤ j → j < 20 → f j = .int .u8 ((48 + n / 10 ^ (19 - j) % 10 : Nat) : Int)

theorem digRow_new (w : World) (n : Nat) (c : Array Value) (hc : c.size = 20) : DigRow (w.alloc (.cells c 28)) w.heap.size n 20 := by
  refine ⟨fun i => (c[i]?).getD undef, ⟨c, Deep.blk_alloc_new _ _, hc, fun i hi => ?_⟩, fun j h1 h2 => by omega⟩
  show c[i]? = some ((c[i]?).getD undef)
  rw [Array.getElem?_eq_getElem (by omega)]
  rfl

theorem DigRow.put {w : World} {g n j : Nat} (h : DigRow w g n (j + 1)) (v : Int) (hv : v = ((48 + n / 10 ^ (19 - j) % 10 : Nat) : Int)) : DigRow (w.setCell ⟨g, j, none⟩ (.int .u8 v)) g n j := by
  obtain ⟨f, hf, hd⟩ := h
  subst hv
  refine ⟨_, hf.set j _, fun i h1 h2 => ?_⟩
  by_cases e : i = j
  · subst e; simp
  · rw [if_neg e]; exact hd i (by omega) h2

theorem quot_step (n j : Nat) (hj : j < 20) : n / 10 ^ (20 - (j + 1)) / 10 = n / 10 ^ (20 - j) := by
  rw [Nat.div_div_eq_div_mul, ← Nat.pow_succ]
  congr 2
  omega

theorem big_pow : (18446744073709551615 : Nat) < 10 ^ 20 := by decide

theorem dk_get (n k j : Nat) (hj : j < k) : (dk n k)[j]? = some (UInt8.ofNat (48 + n / 10 ^ (k - 1 - j) % 10)) := by
  induction k generalizing j with
  | zero => omega
  | succ k ih =>
    cases j with
    | zero => rfl
    | succ j =>
      show (dk n k)[j]? = _
      rw [ih j (by omega), show k + 1 - 1 - (j + 1) = k - 1 - j by omega]

theorem slice20 (g i : Nat) (hi : i < 20) (w : World) :
    (Instr.sliceAt 28 (.pointer (some ⟨g, 0, none⟩)) (some (.int .i64 (i : Int))) none none).run Tryd.prog w = .ok (.slice (some ⟨g, i, none⟩) (20 - i) (20 - i)) w := by
  have h1 : Tryd.prog.arrayLen 28 = 20 := by kernel_rfl
  have h2 : Tryd.prog.elem 28 = 5 := by kernel_rfl
  have ht : Tryd.prog.underlying 28 = some (.array (Tryd.prog.arrayLen 28) (Tryd.prog.elem 28)) := by rw [h1, h2]; exact Tryd.underlying28
  rw [run_sliceAt_array_l w 28 ⟨g, 0, none⟩ ht .i64 (i : Int) (by omega) (by rw [h1]; omega), h2, Tryd.sizeOf5, h1]
  have hne : ¬ (20 = i) := by omega
  simp [slicedAt, hne, Result.andThen, Addr.add_lit]

theorem str_dk (n k : Nat) : strOfNums ((List.range (k + 1)).map fun t => ((48 + n / 10 ^ (k - t) % 10 : Nat) : Int)) = ⟨(dk n (k + 1)).toArray⟩ := by
  unfold strOfNums
  congr 2
  apply List.ext_getElem?
  intro t
  by_cases ht : t < k + 1
  · rw [dk_get n (k + 1) t ht, List.map_map, List.getElem?_map, List.getElem?_range ht]
    simp only [Option.map_some, Function.comp, Int.toNat_natCast, Nat.add_sub_cancel]
  · rw [List.getElem?_eq_none (by simp; omega), List.getElem?_eq_none (by rw [dk_len]; omega)]

set_option maxRecDepth 100000 in
set_option maxHeartbeats 1000000 in
theorem utoa_pos (n : Nat) (w : World) (h0 : n ≠ 0) (h1 : n ≤ 18446744073709551615) :
    Calls Tryd.prog 7 #[.int .u64 n] w fun e w' => (∃ k, e = .returned (.string ⟨(dk n (k + 1)).toArray⟩) ∧ n / 10 ^ (k + 1) = 0 ∧ n / 10 ^ k ≠ 0 ∧ k < 20) ∧ Below w.heap.size w w' := by
  have t0 : ((n : Int) == 0) = false := by rw [beq_eq_false_iff_ne]; omega
  have HZ := hid (digRow_new w n)
  have hn0 := h0
  go_enter Tryd.func7, Tryd.ntmps7
  go_wp2
  go_loopw [0, 4] (fun a b wr => ∃ i m : Nat, i ≤ 20 ∧ a = .int .u64 m ∧ b = .int .i64 i ∧ m ≤ 18446744073709551615 ∧ Below w.heap.size w wr ∧ DigRow wr w.heap.size n i ∧ Hid (m = n / 10 ^ (20 - i)) ∧ Hid (∀ j, i ≤ j → j < 20 → n / 10 ^ (19 - j) ≠ 0)) (fun _ b _ => (intOf b).toNat)
  case atStart => exact ⟨20, n, Nat.le_refl _, rfl, rfl, h1, (Below.refl _ _).alloc (Nat.le_refl _) _, HZ.out _ rfl, hid (by simp), hid (fun j a b => by omega)⟩
  case round =>
    obtain ⟨i, m, hi, rfl, rfl, hm, hB, hD, HM, HN⟩ := hrel
    by_cases hz : 0 < m
    · have hi0 : i ≠ 0 := by
        rintro rfl
        have e := HM.out
        rw [Nat.div_eq_of_lt (Nat.lt_of_le_of_lt h1 big_pow)] at e
        omega
      obtain ⟨j, rfl⟩ : ∃ j, i = j + 1 := ⟨i - 1, by omega⟩
      have hc : ∃ v, wr.cell? ⟨w.heap.size, j, none⟩ = some v := by
        obtain ⟨f, hf, _⟩ := hD
        exact ⟨_, hf.cell (by omega)⟩
      obtain ⟨v, hc⟩ := hc
      have hfz : wr.frozen? ⟨w.heap.size, j, none⟩ = false := by
        obtain ⟨f, hf, _⟩ := hD
        exact hf.frozen j
      have HD := hid hD
      have jb : (j : Int) < 20 := by omega
      have z0 : (0 : Int) < (m : Int) := by omega
      clear hD hi0 hn0 HZ
      go_wp2
      go_roundw
      case rel =>
        have em := HM.out
        have e19 : 20 - (j + 1) = 19 - j := by omega
        refine ⟨j, m / 10, by omega, by go_num, rfl, by omega, hB.setCell (p := ⟨w.heap.size, j, none⟩) (Nat.le_refl _) _, HD.out.put _ ?_, hid ?_, hid ?_⟩
        · rw [← e19, ← em]; omega
        · rw [em]; exact quot_step n j (by omega)
        · intro x hx1 hx2
          by_cases e : x = j
          · subst e; rw [← e19, ← em]; omega
          · exact HN.out x (by omega) hx2
      case measure => simp [intOf]
    · have em : m = 0 := by omega
      subst em
      have e0 : n / 10 ^ (20 - i) = 0 := HM.out.symm
      have hi20 : i ≠ 20 := by
        rintro rfl
        simp at e0
        exact h0 e0
      have hcv := run_convert_bytes_arg (P := Tryd.prog) wr 29 5 Tryd.underlying29 Tryd.underlying5 w.heap.size i (20 - i) (20 - i) ((List.range (20 - i)).map fun t => ((48 + n / 10 ^ (19 - i - t) % 10 : Nat) : Int)) (by simp) (fun t ht => by
        obtain ⟨f, hf, hd⟩ := hD
        rw [hf.cell (i := i + t) (by omega), hd (i + t) (by omega) (by omega), show 19 - (i + t) = 19 - i - t by omega]
        simp [ht]) 9 Tryd.underlying9
      have e20 : 20 - i = 19 - i + 1 := by omega
      have HS := hid (show strOfNums ((List.range (20 - i)).map fun t => ((48 + n / 10 ^ (19 - i - t) % 10 : Nat) : Int)) = ⟨(dk n (19 - i + 1)).toArray⟩ by rw [e20]; exact str_dk n (19 - i))
      have HE := hid (show n / 10 ^ (19 - i + 1) = 0 by rw [← e20]; exact e0)
      have HF := hid (HN.out i (Nat.le_refl _) (by omega))
      have ib : (i : Int) < 20 := by omega
      have hsl := slice20 w.heap.size i (by omega)
      clear hD e20 e0 hn0 HZ
      go_wp2
      go_ret
      exact ⟨⟨19 - i, by rw [← HS.out]; rfl, HE.out, HF.out, by omega⟩, hB⟩

/-- utoa writes the decimal text of n. -/
theorem utoa_any (n : Nat) (w : World) (h1 : n ≤ 18446744073709551615) :
    Calls Tryd.prog 7 #[.int .u64 n] w fun e w' => (∃ t : ByteArray, e = .returned (.string t) ∧ Canon t.data.toList n ∧ t.size ≤ 20) ∧ Below w.heap.size w w' := by
  by_cases h0 : n = 0
  · subst h0
    refine (utoa_zero w).mono ?_
    rintro e w' ⟨rfl, rfl⟩
    exact ⟨⟨_, rfl, zero_canon, by decide⟩, Below.refl _ _⟩
  · refine (utoa_pos n w h0 h1).mono ?_
    rintro e w' ⟨⟨k, rfl, e1, e2, e3⟩, hb⟩
    refine ⟨⟨_, rfl, dk_canon n k e1 e2, ?_⟩, hb⟩
    show (dk n (k + 1)).toArray.size ≤ 20
    rw [List.size_toArray, dk_len]
    omega
end Go.Proofs.Qxb6615192aDoor
