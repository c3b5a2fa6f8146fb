/-
  PLAIN: no Go in sight. The list of what was named, once each, in the order of the first naming; the first step that names a group.
-/
namespace Go.Proofs.Qxb6615205a

/-- i is listed, once -/
def addOnce (L : List Nat) (i : Nat) : List Nat := if i ∈ L then L else L ++ [i]
/-- the list behind the first k steps of the script S -/
def Lk (S : Nat → Nat) : Nat → List Nat
  | 0 => []
  | k + 1 => addOnce (Lk S k) (S k)
/-- the table of first steps behind t steps of the script of m steps, gone through from its end -/
def fa (S : Nat → Nat) (m : Nat) : Nat → Nat → Int
  | 0, _ => -1
  | t + 1, i => if i = S (m - 1 - t) then ((m - 1 - t : Nat) : Int) else fa S m t i

theorem addOnce_mem {L : List Nat} {i : Nat} (h : i ∈ L) : addOnce L i = L := by rw [addOnce, if_pos h]
theorem addOnce_new {L : List Nat} {i : Nat} (h : i ∉ L) : addOnce L i = L ++ [i] := by rw [addOnce, if_neg h]

theorem mem_addOnce (L : List Nat) (i x : Nat) : x ∈ addOnce L i ↔ x ∈ L ∨ x = i := by
  by_cases h : i ∈ L
  · rw [addOnce_mem h]
    constructor
    · exact .inl
    · rintro (h1 | rfl)
      · exact h1
      · exact h
  · rw [addOnce_new h]; simp

theorem mem_Lk (S : Nat → Nat) (k x : Nat) : x ∈ Lk S k ↔ ∃ j, j < k ∧ S j = x := by
  induction k with
  | zero => simp [Lk]
  | succ k ih =>
    simp only [Lk, mem_addOnce, ih]
    constructor
    · rintro (⟨j, hj, e⟩ | rfl)
      · exact ⟨j, by omega, e⟩
      · exact ⟨k, by omega, rfl⟩
    · rintro ⟨j, hj, e⟩
      by_cases hjk : j = k
      · subst hjk; exact .inr e.symm
      · exact .inl ⟨j, by omega, e⟩

theorem Lk_len (S : Nat → Nat) (k : Nat) : (Lk S k).length ≤ k := by
  induction k with
  | zero => simp [Lk]
  | succ k ih =>
    simp only [Lk, addOnce]
    split
    · omega
    · simp; omega

/-- what was listed stays at the list's head -/
theorem Lk_head (S : Nat → Nat) (j k : Nat) (h : j ≤ k) : ∃ t, Lk S k = Lk S j ++ t := by
  induction k with
  | zero =>
    have : j = 0 := by omega
    subst this
    exact ⟨[], by simp⟩
  | succ k ih =>
    by_cases e : j = k + 1
    · subst e; exact ⟨[], by simp⟩
    · obtain ⟨t, ht⟩ := ih (by omega)
      simp only [Lk, addOnce]
      split
      · exact ⟨t, ht⟩
      · exact ⟨t ++ [S k], by rw [ht, List.append_assoc]⟩

theorem Lk_len_mono (S : Nat → Nat) (j k : Nat) (h : j ≤ k) : (Lk S j).length ≤ (Lk S k).length := by
  obtain ⟨t, ht⟩ := Lk_head S j k h
  rw [ht, List.length_append]
  omega

theorem Lk_get (S : Nat → Nat) (j k p : Nat) (h : j ≤ k) (hp : p < (Lk S j).length) : (Lk S k)[p]? = (Lk S j)[p]? := by
  obtain ⟨t, ht⟩ := Lk_head S j k h
  rw [ht, List.getElem?_append_left hp]

/-- a step that names a group first: the group stands right behind what was listed before -/
theorem Lk_first (S : Nat → Nat) (j m : Nat) (h : j < m) (hn : S j ∉ Lk S j) : (Lk S m)[(Lk S j).length]? = some (S j) ∧ (Lk S j).length < (Lk S m).length ∧ (Lk S (j + 1)).length = (Lk S j).length + 1 := by
  have e : Lk S (j + 1) = Lk S j ++ [S j] := addOnce_new hn
  have hl : (Lk S (j + 1)).length = (Lk S j).length + 1 := by rw [e]; simp
  have hm := Lk_len_mono S (j + 1) m (by omega)
  refine ⟨?_, by omega, hl⟩
  rw [Lk_get S (j + 1) m _ (by omega) (by omega), e]
  simp

theorem Lk_again (S : Nat → Nat) (j : Nat) (hn : S j ∈ Lk S j) : Lk S (j + 1) = Lk S j := addOnce_mem hn

theorem fa_none (S : Nat → Nat) (m t i : Nat) (ht : t ≤ m) (h : ∀ j, m - t ≤ j → j < m → S j ≠ i) : fa S m t i = -1 := by
  induction t with
  | zero => rfl
  | succ t ih =>
    rw [fa, if_neg (fun e => h (m - 1 - t) (by omega) (by omega) e.symm)]
    exact ih (by omega) (fun j h1 h2 => h j (by omega) h2)

theorem fa_first (S : Nat → Nat) (m t i j : Nat) (ht : t ≤ m) (h1 : m - t ≤ j) (h2 : j < m) (hj : S j = i) (hf : ∀ x, m - t ≤ x → x < j → S x ≠ i) : fa S m t i = (j : Int) := by
  induction t with
  | zero => omega
  | succ t ih =>
    by_cases e : j = m - 1 - t
    · subst e
      rw [fa, if_pos hj.symm]
    · rw [fa, if_neg (fun c => hf (m - 1 - t) (by omega) (by omega) c.symm)]
      exact ih (by omega) (by omega) (fun x a b => hf x (by omega) b)

theorem first_of (S : Nat → Nat) (i : Nat) : ∀ j, S j = i → ∃ x, x ≤ j ∧ S x = i ∧ ∀ y, y < x → S y ≠ i := by
  intro j
  induction j using Nat.strongRecOn with
  | ind j ih =>
    intro hj
    by_cases h : ∃ y, y < j ∧ S y = i
    · obtain ⟨y, hy, e⟩ := h
      obtain ⟨x, hx, e2, h3⟩ := ih y hy e
      exact ⟨x, by omega, e2, h3⟩
    · exact ⟨j, Nat.le_refl _, hj, fun y hy e => h ⟨y, hy, e⟩⟩

/-- step j is the first that names its group exactly where the table says j -/
theorem fa_iff (S : Nat → Nat) (m j : Nat) (hj : j < m) : fa S m m (S j) = (j : Int) ↔ S j ∉ Lk S j := by
  obtain ⟨x, hx, e, hf⟩ := first_of S (S j) j rfl
  have hfa := fa_first S m m (S j) x (Nat.le_refl _) (by omega) (by omega) e (fun y _ hy => hf y hy)
  rw [hfa, mem_Lk]
  constructor
  · intro h
    have : x = j := by omega
    subst this
    rintro ⟨y, hy, e2⟩
    exact hf y hy e2
  · intro h
    by_cases c : x = j
    · rw [c]
    · exact absurd ⟨x, by omega, e⟩ h

/-- a group is listed exactly where the table names a step -/
theorem fa_pos (S : Nat → Nat) (m i : Nat) : (decide (0 ≤ fa S m m i)) = decide (i ∈ Lk S m) := by
  by_cases h : i ∈ Lk S m
  · obtain ⟨j, hj, e⟩ := (mem_Lk S m i).1 h
    obtain ⟨x, hx, e2, hf⟩ := first_of S i j e
    rw [fa_first S m m i x (Nat.le_refl _) (by omega) (by omega) e2 (fun y _ hy => hf y hy)]
    simp [h]
  · rw [fa_none S m m i (Nat.le_refl _) (fun j _ hj e => h ((mem_Lk S m i).2 ⟨j, hj, e⟩))]
    simp [h]

theorem fa_range (S : Nat → Nat) (m t i : Nat) (ht : t ≤ m) : -1 ≤ fa S m t i ∧ fa S m t i < (m : Int) := by
  induction t with
  | zero => simp [fa]; omega
  | succ t ih =>
    have := ih (by omega)
    rw [fa]
    split <;> omega

end Go.Proofs.Qxb6615205a
