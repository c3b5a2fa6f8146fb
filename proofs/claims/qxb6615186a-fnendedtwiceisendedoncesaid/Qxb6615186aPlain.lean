/-
  PLAIN: no Go in sight. Counting, 'all', and the bitmap's bytes after k rounds.
-/
namespace Go.Proofs.Qxb6615186a

/-- how many of the first n are set -/
def cnt (p : Nat → Bool) : Nat → Nat
  | 0 => 0
  | n + 1 => cnt p n + (if p n then 1 else 0)
/-- are the first n all set -/
def allB (p : Nat → Bool) : Nat → Bool
  | 0 => true
  | n + 1 => allB p n && p n
/-- the mask of sensor i inside its byte -/
def msk (i : Nat) : Nat := 128 / 2 ^ (i % 8)
/-- byte q of the bitmap behind k rounds -/
def bm (p : Nat → Bool) : Nat → Nat → Nat
  | 0, _ => 0
  | k + 1, q => if p k = true ∧ q = k / 8 then bm p k q ||| msk k else bm p k q

theorem cnt_le (p : Nat → Bool) (n : Nat) : cnt p n ≤ n := by
  induction n with
  | zero => simp [cnt]
  | succ n ih => simp only [cnt]; split <;> omega

theorem allB_iff (p : Nat → Bool) (n : Nat) : allB p n = true ↔ ∀ i, i < n → p i = true := by
  induction n with
  | zero => simp [allB]
  | succ n ih =>
    simp only [allB, Bool.and_eq_true, ih]
    constructor
    · rintro ⟨h1, h2⟩ i hi
      by_cases e : i = n
      · subst e; exact h2
      · exact h1 i (by omega)
    · intro h
      exact ⟨fun i hi => h i (by omega), h n (by omega)⟩

theorem allB_false (p : Nat → Bool) (n k : Nat) (hk : k < n) (h : p k = false) : allB p n = false := by
  rw [← Bool.not_eq_true, allB_iff]
  intro hh
  have := hh k hk
  rw [h] at this
  exact absurd this (by simp)

theorem allB_congr (p q : Nat → Bool) (n : Nat) (h : ∀ i, i < n → p i = q i) : allB p n = allB q n := by
  induction n with
  | zero => rfl
  | succ n ih => simp only [allB]; rw [ih (fun i hi => h i (by omega)), h n (by omega)]

/-- the count is full exactly where all are set -/
theorem cnt_full (p : Nat → Bool) (n : Nat) : (cnt p n = n) ↔ allB p n = true := by
  induction n with
  | zero => simp [cnt, allB]
  | succ n ih =>
    have hle := cnt_le p n
    simp only [cnt, allB, Bool.and_eq_true, ← ih]
    by_cases h : p n = true
    · simp [h]
    · simp [h]; omega

theorem msk_lt (i : Nat) : msk i < 256 := by
  unfold msk
  have : 128 / 2 ^ (i % 8) ≤ 128 := Nat.div_le_self _ _
  omega

theorem bm_lt (p : Nat → Bool) (k q : Nat) : bm p k q < 256 := by
  induction k with
  | zero => simp [bm]
  | succ k ih =>
    simp only [bm]
    split
    · exact Nat.or_lt_two_pow (n := 8) ih (msk_lt k)
    · exact ih

theorem mask_table : ∀ a : Fin 8, ∀ b : Fin 8, (128 / 2 ^ a.val) &&& (128 / 2 ^ b.val) = if a = b then 128 / 2 ^ b.val else 0 := by decide

theorem msk_and (k i : Nat) : msk k &&& msk i = if k % 8 = i % 8 then msk i else 0 := by
  have := mask_table ⟨k % 8, by omega⟩ ⟨i % 8, by omega⟩
  simpa [msk, Fin.ext_iff] using this

theorem msk_pos (i : Nat) : msk i ≠ 0 := by
  have h : ∀ a : Fin 8, 128 / 2 ^ a.val ≠ 0 := by decide
  exact h ⟨i % 8, by omega⟩

/-- BIT i OF THE BITMAP: set exactly where sensor i has been met and is present -/
theorem bm_bit (p : Nat → Bool) (k i : Nat) : (bm p k (i / 8) &&& msk i != 0) = (decide (i < k) && p i) := by
  induction k with
  | zero => simp [bm]
  | succ k ih =>
    simp only [bm]
    by_cases hc : p k = true ∧ i / 8 = k / 8
    · rw [if_pos hc, Nat.and_or_distrib_right, msk_and]
      by_cases hki : k % 8 = i % 8
      · have e : k = i := by omega
        subst e
        rw [if_pos rfl]
        have h1 : ((bm p k (k / 8) &&& msk k) ||| msk k) = msk k := by
          apply Nat.eq_of_testBit_eq
          intro j
          simp only [Nat.testBit_or, Nat.testBit_and]
          cases (msk k).testBit j <;> simp
        rw [h1]
        simp [hc.1, msk_pos]
      · rw [if_neg hki, Nat.or_zero, ih]
        have e : k ≠ i := fun h => hki (by rw [h])
        have : decide (i < k) = decide (i < k + 1) := by
          by_cases h : i < k
          · simp [h]; omega
          · simp [h]; omega
        rw [this]
    · rw [if_neg hc, ih]
      by_cases e : k = i
      · subst e
        have hp : p k = false := by
          cases hp : p k
          · rfl
          · exact absurd ⟨hp, rfl⟩ hc
        simp [hp]
      · have : decide (i < k) = decide (i < k + 1) := by
          by_cases h : i < k
          · simp [h]; omega
          · simp [h]; omega
        rw [this]

end Go.Proofs.Qxb6615186a
