/-
  PLAIN: no Go in sight. Canonical decimals: what ParseUint at base 10 accepts, the digits that utoa writes, prefixes.
-/
import Derived.Lib.ParseIntB
namespace Go.Proofs.Qxb6615192aDoor

/-- a decimal digit's byte -/
def isDig (c : UInt8) : Prop := 48 ≤ c.toNat ∧ c.toNat ≤ 57
/-- the number that the digits spell, behind acc -/
def dval (acc : Nat) : List UInt8 → Nat
  | [] => acc
  | c :: r => dval (acc * 10 + (c.toNat - 48)) r
/-- the last k decimal digits of n -/
def dk (n : Nat) : Nat → List UInt8
  | 0 => []
  | k + 1 => UInt8.ofNat (48 + n / 10 ^ k % 10) :: dk n k
/-- l is THE decimal text of u -/
structure Canon (l : List UInt8) (u : Nat) : Prop where
  ne : l ≠ []
  dig : ∀ c ∈ l, isDig c
  val : dval 0 l = u
  head : ∀ c r, l = c :: r → c.toNat = 48 → r = []

theorem dval_add (acc : Nat) (l : List UInt8) : dval acc l = acc * 10 ^ l.length + dval 0 l := by
  induction l generalizing acc with
  | nil => show acc = acc * 1 + 0; rw [Nat.mul_one, Nat.add_zero]
  | cons c r ih =>
    show dval (acc * 10 + (c.toNat - 48)) r = acc * 10 ^ (r.length + 1) + dval (0 * 10 + (c.toNat - 48)) r
    rw [ih (acc * 10 + (c.toNat - 48)), ih (0 * 10 + (c.toNat - 48)), Nat.pow_succ]
    generalize dval 0 r = v
    generalize 10 ^ r.length = t
    generalize c.toNat - 48 = d
    rw [Nat.zero_mul, Nat.zero_add, Nat.add_mul, Nat.mul_assoc, Nat.mul_comm 10 t, Nat.add_assoc]

theorem dval_le (acc : Nat) (l : List UInt8) : acc ≤ dval acc l := by
  rw [dval_add]
  have h0 : 0 < 10 ^ l.length := Nat.pow_pos (by omega)
  exact Nat.le_trans (Nat.le_mul_of_pos_right acc h0) (Nat.le_add_right _ _)

theorem dval_lt (l : List UInt8) (h : ∀ c ∈ l, isDig c) : dval 0 l < 10 ^ l.length := by
  induction l with
  | nil => show 0 < 1; omega
  | cons c r ih =>
    have hc := h c (by simp)
    have hr := ih (fun x hx => h x (List.mem_cons_of_mem _ hx))
    unfold isDig at hc
    show dval (0 * 10 + (c.toNat - 48)) r < 10 ^ (r.length + 1)
    rw [dval_add, Nat.pow_succ, Nat.zero_mul, Nat.zero_add]
    have h1 : (c.toNat - 48) * 10 ^ r.length ≤ 9 * 10 ^ r.length := Nat.mul_le_mul_right _ (by omega)
    generalize 10 ^ r.length = t at *
    generalize dval 0 r = v at *
    generalize (c.toNat - 48) * t = z at *
    omega

theorem dval_ge (c : UInt8) (r : List UInt8) (hc : isDig c) (h0 : c.toNat ≠ 48) : 10 ^ r.length ≤ dval 0 (c :: r) := by
  unfold isDig at hc
  show 10 ^ r.length ≤ dval (0 * 10 + (c.toNat - 48)) r
  rw [dval_add, Nat.zero_mul, Nat.zero_add]
  have h1 : 1 * 10 ^ r.length ≤ (c.toNat - 48) * 10 ^ r.length := Nat.mul_le_mul_right _ (by omega)
  generalize 10 ^ r.length = t at *
  generalize dval 0 r = v at *
  generalize (c.toNat - 48) * t = z at *
  omega

/-! ### what ParseUint at base 10 accepts -/
theorem parse_to (l : List UInt8) (acc u : Nat) (h : Lib.parseUintM 18446744073709551615 acc l = .ok u) (ha : acc ≤ 18446744073709551615) : (∀ c ∈ l, isDig c) ∧ dval acc l = u ∧ u ≤ 18446744073709551615 := by
  induction l generalizing acc with
  | nil =>
    simp only [Lib.parseUintM] at h
    injection h with h
    subst h
    exact ⟨by simp, rfl, ha⟩
  | cons c r ih =>
    simp only [Lib.parseUintM] at h
    by_cases h1 : 48 ≤ c.toNat ∧ c.toNat ≤ 57
    · rw [if_pos h1] at h
      by_cases h2 : 1844674407370955162 ≤ acc
      · rw [if_pos h2] at h; cases h
      · rw [if_neg h2] at h
        by_cases h3 : 18446744073709551615 < acc * 10 + (c.toNat - 48)
        · rw [if_pos h3] at h; cases h
        · rw [if_neg h3] at h
          obtain ⟨q1, q2, q3⟩ := ih _ h (by omega)
          refine ⟨?_, q2, q3⟩
          intro x hx
          rcases List.mem_cons.1 hx with rfl | hx
          · exact h1
          · exact q1 x hx
    · rw [if_neg h1] at h; cases h

theorem parse_step (M acc : Nat) (c : UInt8) (r : List UInt8) (hc : 48 ≤ c.toNat ∧ c.toNat ≤ 57) (h1 : ¬ 1844674407370955162 ≤ acc) (h2 : ¬ M < acc * 10 + (c.toNat - 48)) :
    Lib.parseUintM M acc (c :: r) = Lib.parseUintM M (acc * 10 + (c.toNat - 48)) r := by
  rw [Lib.parseUintM, if_pos hc, if_neg h1, if_neg h2]

theorem parse_from (M : Nat) (hM : M ≤ 18446744073709551615) (l : List UInt8) (acc : Nat) (hd : ∀ c ∈ l, isDig c) (hu : dval acc l ≤ M) : Lib.parseUintM M acc l = .ok (dval acc l) := by
  induction l generalizing acc with
  | nil => rfl
  | cons c r ih =>
    have hc : 48 ≤ c.toNat ∧ c.toNat ≤ 57 := hd c (List.mem_cons_self)
    have hu' : dval (acc * 10 + (c.toNat - 48)) r ≤ M := hu
    have hle := dval_le (acc * 10 + (c.toNat - 48)) r
    have e2 : dval acc (c :: r) = dval (acc * 10 + (c.toNat - 48)) r := rfl
    rw [e2, parse_step M acc c r hc (by omega) (by omega)]
    exact ih _ (fun x hx => hd x (List.mem_cons_of_mem _ hx)) hu'

/-- what plainDecimal reads -/
def pd (l : List UInt8) : Option Nat :=
  match Lib.parseUintB 64 l with
  | .ok u => if l.head? = some 48 ∧ 1 < l.length then none else some u
  | _ => none

theorem parseB (l : List UInt8) : Lib.parseUintB 64 l = if l = [] then Lib.parseUintB 64 [] else Lib.parseUintM 18446744073709551615 0 l := by
  unfold Lib.parseUintB
  by_cases h : l = []
  · simp [h]
  · simp [h]

theorem toNat48 (c : UInt8) : c.toNat = 48 ↔ c = 48 := by
  constructor
  · intro h
    apply UInt8.toNat_inj.1
    rw [h]
    rfl
  · rintro rfl
    rfl

theorem pd_canon (l : List UInt8) (u : Nat) (h : pd l = some u) : Canon l u ∧ u ≤ 18446744073709551615 := by
  unfold pd at h
  rcases hp : Lib.parseUintB 64 l with v | _ | _
  · rw [hp] at h
    simp only at h
    by_cases hz : l.head? = some 48 ∧ 1 < l.length
    · rw [if_pos hz] at h; cases h
    · rw [if_neg hz] at h
      injection h with h
      subst h
      rw [parseB] at hp
      by_cases hl : l = []
      · subst hl
        simp [Lib.parseUintB] at hp
      · rw [if_neg hl] at hp
        obtain ⟨h1, h2, h3⟩ := parse_to l 0 v hp (by omega)
        refine ⟨⟨hl, h1, h2, ?_⟩, h3⟩
        rintro c r rfl hc
        rw [toNat48] at hc
        subst hc
        cases r with
        | nil => rfl
        | cons x y => exact absurd ⟨rfl, by simp⟩ hz
  · rw [hp] at h; cases h
  · rw [hp] at h; cases h

theorem canon_pd (l : List UInt8) (u : Nat) (h : Canon l u) (hu : u ≤ 18446744073709551615) : pd l = some u := by
  have hv := h.val
  subst hv
  have hp : Lib.parseUintB 64 l = .ok (dval 0 l) := by
    rw [parseB, if_neg h.ne]
    exact parse_from _ (Nat.le_refl _) l 0 h.dig hu
  unfold pd
  rw [hp]
  simp only
  rw [if_neg]
  rintro ⟨h1, h2⟩
  cases hl : l with
  | nil => exact h.ne hl
  | cons c r =>
    rw [hl] at h1 h2
    simp at h1
    have := h.head c r hl ((toNat48 c).2 h1)
    subst this
    simp at h2

/-! ### the digits -/
theorem dk_len (n k : Nat) : (dk n k).length = k := by
  induction k with
  | zero => rfl
  | succ k ih => simp [dk, ih]

theorem dig_ofNat (d : Nat) (h : d < 10) : (UInt8.ofNat (48 + d)).toNat = 48 + d := by
  simp
  omega

theorem dk_dig (n k : Nat) : ∀ c ∈ dk n k, isDig c := by
  induction k with
  | zero => simp [dk]
  | succ k ih =>
    intro c hc
    rcases List.mem_cons.1 hc with rfl | hc
    · have := dig_ofNat (n / 10 ^ k % 10) (Nat.mod_lt _ (by omega))
      unfold isDig
      rw [this]
      have := Nat.mod_lt (n / 10 ^ k) (show 0 < 10 by omega)
      omega
    · exact ih c hc

theorem dk_val (n k : Nat) : dval 0 (dk n k) = n % 10 ^ k := by
  induction k with
  | zero => show 0 = n % 1; omega
  | succ k ih =>
    show dval (0 * 10 + ((UInt8.ofNat (48 + n / 10 ^ k % 10)).toNat - 48)) (dk n k) = n % 10 ^ (k + 1)
    rw [dval_add, dk_len, ih, dig_ofNat _ (Nat.mod_lt _ (by omega)), Nat.zero_mul, Nat.zero_add, Nat.add_sub_cancel_left, Nat.pow_succ, Nat.mod_mul, Nat.mul_comm (10 ^ k), Nat.add_comm]

/-- what utoa writes is the decimal text of n -/
theorem dk_canon (n k : Nat) (h : n / 10 ^ (k + 1) = 0) (h2 : n / 10 ^ k ≠ 0) : Canon (dk n (k + 1)) n := by
  have hlt : n < 10 ^ (k + 1) := by
    rcases Nat.div_eq_zero_iff.1 h with h | h
    · exact absurd h (Nat.ne_of_gt (Nat.pow_pos (by omega)))
    · exact h
  refine ⟨by simp [dk], dk_dig n _, by rw [dk_val, Nat.mod_eq_of_lt hlt], ?_⟩
  intro c r e hc
  simp only [dk, List.cons.injEq] at e
  rw [← e.1, dig_ofNat _ (Nat.mod_lt _ (by omega))] at hc
  have : n / 10 ^ k < 10 := by
    rw [Nat.pow_succ] at hlt
    exact Nat.div_lt_of_lt_mul hlt
  rw [Nat.mod_eq_of_lt this] at hc
  omega

theorem zero_canon : Canon [48] 0 := ⟨by simp, by intro c hc; simp at hc; subst hc; exact ⟨by decide, by decide⟩, rfl, by intro c r e _; simp at e; exact e.2⟩

/-! ### one number, one text -/
theorem canon_lt {l : List UInt8} {u : Nat} (h : Canon l u) : u < 10 ^ l.length := by
  rw [← h.val]; exact dval_lt l h.dig

theorem canon_ge {l : List UInt8} {u : Nat} (h : Canon l u) (h1 : 1 < l.length) : 10 ^ (l.length - 1) ≤ u := by
  cases l with
  | nil => simp at h1
  | cons c r =>
    have hc : c.toNat ≠ 48 := by
      intro e
      have := h.head c r rfl e
      subst this
      simp at h1
    rw [← h.val]
    exact dval_ge c r (h.dig c (by simp)) hc

theorem split_eq (d d' t v v' : Nat) (h : d * t + v = d' * t + v') (b1 : v < t) (b2 : v' < t) : d = d' ∧ v = v' := by
  have ht : 0 < t := by omega
  have q1 : (d * t + v) / t = d := by rw [Nat.mul_comm, Nat.mul_add_div ht, Nat.div_eq_of_lt b1, Nat.add_zero]
  have q2 : (d' * t + v') / t = d' := by rw [Nat.mul_comm, Nat.mul_add_div ht, Nat.div_eq_of_lt b2, Nat.add_zero]
  have e : d = d' := by rw [← q1, ← q2, h]
  subst e
  exact ⟨rfl, by omega⟩

theorem digs_inj (l l' : List UInt8) (h : ∀ c ∈ l, isDig c) (h' : ∀ c ∈ l', isDig c) (hlen : l.length = l'.length) (hv : dval 0 l = dval 0 l') : l = l' := by
  induction l generalizing l' with
  | nil =>
    cases l' with
    | nil => rfl
    | cons c r => simp at hlen
  | cons c r ih =>
    cases l' with
    | nil => simp at hlen
    | cons c' r' =>
      have hl : r.length = r'.length := by simpa using hlen
      have hv' : dval (0 * 10 + (c.toNat - 48)) r = dval (0 * 10 + (c'.toNat - 48)) r' := hv
      rw [dval_add, dval_add (0 * 10 + (c'.toNat - 48)), hl, Nat.zero_mul, Nat.zero_add, Nat.zero_add] at hv'
      have b1 := dval_lt r (fun x hx => h x (List.mem_cons_of_mem _ hx))
      have b2 := dval_lt r' (fun x hx => h' x (List.mem_cons_of_mem _ hx))
      rw [hl] at b1
      have hc : 48 ≤ c.toNat ∧ c.toNat ≤ 57 := h c (List.mem_cons_self)
      have hc' : 48 ≤ c'.toNat ∧ c'.toNat ≤ 57 := h' c' (List.mem_cons_self)
      obtain ⟨e1, e2⟩ := split_eq _ _ _ _ _ hv' b1 b2
      have e3 : c = c' := UInt8.toNat_inj.1 (by omega)
      subst e3
      rw [ih r' (fun x hx => h x (List.mem_cons_of_mem _ hx)) (fun x hx => h' x (List.mem_cons_of_mem _ hx)) hl e2]

theorem canon_len {l l' : List UInt8} {u : Nat} (h : Canon l u) (h' : Canon l' u) : l.length ≤ l'.length := by
  rcases Nat.lt_or_ge l'.length l.length with hlt | hge
  · have h0 : 0 < l'.length := by
      cases hl : l' with
      | nil => exact absurd hl h'.ne
      | cons => simp
    have a := canon_ge h (by omega)
    have b := canon_lt h'
    have : 10 ^ l'.length ≤ 10 ^ (l.length - 1) := Nat.pow_le_pow_right (by omega) (by omega)
    omega
  · exact hge

theorem canon_one {l l' : List UInt8} {u : Nat} (h : Canon l u) (h' : Canon l' u) : l = l' :=
  digs_inj l l' h.dig h'.dig (Nat.le_antisymm (canon_len h h') (canon_len h' h)) (h.val.trans h'.val.symm)

/-! ### prefixes -/
theorem dval_append (l r : List UInt8) : dval 0 (l ++ r) = dval 0 l * 10 ^ r.length + dval 0 r := by
  have : ∀ acc, dval acc (l ++ r) = dval (dval acc l) r := by
    induction l with
    | nil => intro acc; rfl
    | cons c l ih => intro acc; exact ih _
  rw [this, dval_add]

theorem canon_take {l : List UInt8} {u : Nat} (h : Canon l u) (p : Nat) (h1 : 1 ≤ p) (hp : p ≤ l.length) : Canon (l.take p) (u / 10 ^ (l.length - p)) := by
  have hlen : (l.drop p).length = l.length - p := by simp
  refine ⟨?_, fun c hc => h.dig c (List.mem_of_mem_take hc), ?_, ?_⟩
  · intro e
    have := congrArg List.length e
    simp at this
    rcases this with h | h
    · omega
    · subst h; simp at hp; omega
  · have hv := h.val
    rw [← List.take_append_drop p l, dval_append, hlen] at hv
    have hlt := dval_lt (l.drop p) (fun c hc => h.dig c (List.mem_of_mem_drop hc))
    rw [hlen] at hlt
    rw [← hv, Nat.mul_comm, Nat.mul_add_div (Nat.pow_pos (by omega)), Nat.div_eq_of_lt hlt, Nat.add_zero]
  · intro c r e hc
    cases l with
    | nil => simp at hp; omega
    | cons x y =>
      cases p with
      | zero => omega
      | succ p =>
        simp only [List.take_succ_cons, List.cons.injEq] at e
        have := h.head x y rfl (by rw [e.1]; exact hc)
        subst this
        simpa using e.2.symm

/-- one byte is accepted exactly where it is a digit -/
theorem pd_one (c : UInt8) : (pd [c]).isSome = (decide (48 ≤ (c.toNat : Int)) && decide ((c.toNat : Int) ≤ 57)) := by
  by_cases hc : isDig c
  · have hcan : Canon [c] (c.toNat - 48) := ⟨by simp, by intro x hx; simp at hx; subst hx; exact hc, (show 0 * 10 + (c.toNat - 48) = c.toNat - 48 by omega), by intro x r e _; simp at e; exact e.2⟩
    have := hc
    unfold isDig at this
    rw [canon_pd _ _ hcan (by omega)]
    simp
    omega
  · cases hp : pd [c] with
    | none =>
      unfold isDig at hc
      symm
      simp
      omega
    | some u =>
      exact absurd ((pd_canon _ _ hp).1.dig c (by simp)) hc

end Go.Proofs.Qxb6615192aDoor
