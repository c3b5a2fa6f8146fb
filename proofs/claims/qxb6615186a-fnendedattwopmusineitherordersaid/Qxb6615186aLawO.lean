/-
  THE LAW FnEndedAtTwoPmusInEitherOrder, out of its callees contracts.
-/
import Derived.Test.Qxb6615186aLawT
namespace Go.Proofs.Qxb6615186a
open Go.RowKit

theorem zzb22_yes (s i j : Int) (a : Option Addr) (n cap : Nat) (w : World) (hn : n ≤ 1048576) :
    Calls Try.prog 22 #[.int .i64 s, .slice a n cap, .int .i64 i, .int .i64 j] w fun e w' => e = .returned (.bool true) ∧ w = w' := by
  go_enter Try.func22, Try.ntmps22
  go_wp2
  go_ret
  exact ⟨rfl, rfl⟩
theorem zzb22_no (s i j : Int) (a : Option Addr) (n cap : Nat) (w : World) (hn : ¬ n ≤ 1048576) :
    Calls Try.prog 22 #[.int .i64 s, .slice a n cap, .int .i64 i, .int .i64 j] w fun e w' => e = .returned (.bool false) ∧ w = w' := by
  go_enter Try.func22, Try.ntmps22
  go_wp2
  go_ret
  exact ⟨rfl, rfl⟩

/-! ### plain: two ends, in either order -/
theorem pend_one (q : Nat → Pl) (i j : Nat) : pend (endAt q i j) = (pend (q j) && !decide (j = i)) := by
  unfold endAt
  by_cases e : j = i
  · subst e
    by_cases h : pend (q j) = true
    · rw [if_pos ⟨rfl, h⟩]; simp [pend]
    · simp [h]
  · simp [e]

theorem two_want (q : Nat → Pl) (i j k : Nat) : endAt (endAt q i) j k = wantAt q i j k := by
  unfold wantAt
  by_cases ej : k = j
  · subst ej
    have e0 : endAt (endAt q i) k k = if pend (endAt q i k) = true then { endAt q i k with un := true } else endAt q i k := by
      unfold endAt; simp
    rw [e0, pend_one]
    by_cases ei : k = i
    · subst ei
      simp [endAt]
    · simp [endAt, ei]
  · have e0 : endAt (endAt q i) j k = endAt q i k := by
      show (if k = j ∧ _ then _ else endAt q i k) = _
      rw [if_neg (by simp [ej])]
    rw [e0]
    unfold endAt
    by_cases ei : k = i
    · subst ei; simp
    · simp [ei, ej]

theorem want_comm (q : Nat → Pl) (i j k : Nat) : wantAt q i j k = wantAt q j i k := by
  unfold wantAt
  simp only [or_comm]

/-- the channel behind two ends is another one exactly where one of the two was pending -/
theorem chan_two {h0 h1 h2 s1 s2 : Nat} {q : Nat → Pl} {i j : Nat} (l0 : h0 < s1) (l2 : s1 ≤ s2) (a : h1 = h0 ∨ s1 ≤ h1) (b : h2 = h1 ∨ s2 ≤ h2) (e1 : (h1 != h0) = pend (q i)) (e2 : (h2 != h1) = pend (endAt q i j)) :
    (h2 != h0) = (pend (q i) || pend (q j)) := by
  rw [pend_one] at e2
  cases hi : pend (q i) with
  | true =>
    rw [hi, bne_iff_ne] at e1
    simp only [Bool.true_or]
    rw [bne_iff_ne]
    omega
  | false =>
    rw [hi] at e1
    have e : h1 = h0 := by simpa using e1
    subst e
    rw [e2, Bool.false_or]
    by_cases ej : j = i
    · subst ej; simp [hi]
    · simp [ej]

theorem Placed.apart {w w' : World} {c g h n c' g' h' : Nat} {sens : Int} {q : Nat → Pl} (P : Placed w c g h n sens q) (A : Apart c' g' h' w w')
    (n1 : c ≠ c' ∧ c ≠ g' ∧ c ≠ h') (n2 : g ≠ c' ∧ g ≠ g' ∧ g ≠ h') (n3 : h ≠ c' ∧ h ≠ g' ∧ h ≠ h') : Placed w' c g h n sens q := by
  obtain ⟨_, _, _, _, _, lc, lg, lh, _, _, _⟩ := P.cells
  exact ⟨(A.block c lc n1.1 n1.2.1 n1.2.2).trans P.obj, P.row.of_block (A.block g lg n2.1 n2.2.1 n2.2.2), (A.block h lh n3.1 n3.2.1 n3.2.2).trans P.chan⟩

theorem Placed.lts {w : World} {c g h n : Nat} {sens : Int} {q : Nat → Pl} (P : Placed w c g h n sens q) : c < w.heap.size ∧ g < w.heap.size ∧ h < w.heap.size := by
  obtain ⟨_, _, _, _, _, lc, lg, lh, _, _, _⟩ := P.cells
  exact ⟨lc, lg, lh⟩

set_option maxHeartbeats 4000000 in
set_option maxRecDepth 100000 in
theorem law6 (sens : Int) (b off n cap : Nat) (q : Nat → Pl) (i j : Nat) (W : World) (hn : n ≤ 32768) (hi : i < n) (hj : j < n) (hb : b < W.heap.size) (hq : Pls W b off n q) :
    Calls Try.prog 6 #[.int .i64 sens, .slice (some ⟨b, off, none⟩) n cap, .int .i64 i, .int .i64 j] W fun e w' => e = .returned (.bool true) ∧ Below W.heap.size W w' := by
  have HQ := hid hq
  have hd0 : decide ((32768 : Int) < (n : Int)) = false := by simp; omega
  have hd1 : decide ((i : Int) < 0) = false := by simp
  have hd2 : decide ((n : Int) ≤ (i : Int)) = false := by simp; omega
  have hd3 : decide ((j : Int) < 0) = false := by simp
  have hd4 : decide ((n : Int) ≤ (j : Int)) = false := by simp; omega
  have i1 : (i : Int) < (n : Int) := by omega
  have j1 : (j : Int) < (n : Int) := by omega
  clear hq
  go_enter Try.func6, Try.ntmps6
  go_wp2_with fail
  refine (zzb22_yes _ _ _ _ n cap _ (by omega)).mono ?_
  rintro e w1 ⟨rfl, rfl⟩
  go_wp2_with fail
  refine (copyPl_any b off n cap q _ hn hb HQ.out).mono ?_
  rintro e w1 ⟨rfl, b1, r1⟩
  have R1 := hid r1
  clear r1
  go_wp2_with fail
  refine (newPl_any sens W.heap.size n q _ hn R1.out.lt R1.out.pls).mono ?_
  rintro e w2 ⟨c1, g1, h10, rfl, lc1, lg1, lh1, b2, p2⟩
  have s1 := b1.size
  have B2 : Below W.heap.size W w2 := b1.trans (b2.mono s1)
  have P2 := hid p2
  clear p2 b2 R1 b1
  go_wp2_with fail
  refine (copyPl_any b off n cap q _ hn (Nat.lt_of_lt_of_le hb B2.size) (HQ.out.below B2 hb)).mono ?_
  rintro e w3 ⟨rfl, b3, r3⟩
  have R3 := hid r3
  clear r3
  go_wp2_with fail
  refine (newPl_any sens w2.heap.size n q _ hn R3.out.lt R3.out.pls).mono ?_
  rintro e w4 ⟨c2, g2, h20, rfl, lc2, lg2, lh2, b4, p4⟩
  have B4 : Below W.heap.size W w4 := (B2.trans (b3.mono B2.size)).trans (b4.mono (Nat.le_trans B2.size b3.size))
  have P24 := hid p4
  have P14 := hid ((P2.out.below b3 (Nat.le_refl _)).below b4 (Nat.le_refl _))
  have m1 := P2.out.lts
  have m2 : w2.heap.size ≤ c2 ∧ w2.heap.size ≤ g2 ∧ w2.heap.size ≤ h20 := by have := b3.size; omega
  have m3 : W.heap.size ≤ c1 ∧ W.heap.size ≤ g1 ∧ W.heap.size ≤ h10 := by omega
  have m4 : W.heap.size ≤ c2 ∧ W.heap.size ≤ g2 ∧ W.heap.size ≤ h20 := by have := B2.size; omega
  clear p4 b4 b3 R3 P2 B2 lc1 lg1 lh1 lc2 lg2 lh2 s1
  go_wp2_with fail
  refine (changed_any c1 g1 h10 n sens q _ P14.out).mono ?_
  rintro e x1 ⟨rfl, rfl⟩
  go_wp2_with fail
  refine (changed_any c2 g2 h20 n sens q _ P24.out).mono ?_
  rintro e x1 ⟨rfl, rfl⟩
  go_wp2_with fail
  refine (zzended_any c1 g1 h10 n sens q i hi _ P14.out).mono ?_
  rintro e w5 ⟨rfl, h11, p5, a5, hh5, hc5⟩
  have t4 := P24.out.lts
  have t4' := P14.out.lts
  have P25 := hid (P24.out.apart a5 (by omega) (by omega) (by omega))
  have B5 : Below W.heap.size W w5 := B4.trans (a5.below B4.size (by omega) (by omega) (by omega))
  have z5 : w4.heap.size ≤ w5.heap.size := a5.size
  have P15 := hid p5
  have C5 := hid hc5
  clear p5 a5 hc5 P14 P24
  go_wp2_with fail
  refine (zzended_any c1 g1 h11 n sens _ j hj _ P15.out).mono ?_
  rintro e w6 ⟨rfl, h12, p6, a6, hh6, hc6⟩
  have t5 := P25.out.lts
  have t5' := P15.out.lts
  have N1 := hid (chan_two t4'.2.2 z5 hh5 hh6 C5.out hc6)
  have P26 := hid (P25.out.apart a6 (by omega) (by omega) (by omega))
  have B6' : Below W.heap.size W w6 := B5.trans (a6.below B5.size (by omega) (by omega) (by omega))
  have z6 : w5.heap.size ≤ w6.heap.size := a6.size
  have P16 := hid p6
  clear p6 a6 hc6 P15 P25 C5
  go_wp2_with fail
  refine (zzended_any c2 g2 h20 n sens q j hj _ P26.out).mono ?_
  rintro e w7 ⟨rfl, h21, p7, a7, hh7, hc7⟩
  have t6 := P26.out.lts
  have t6' := P16.out.lts
  have P17 := hid (P16.out.apart a7 (by omega) (by omega) (by omega))
  have B7' : Below W.heap.size W w7 := B6'.trans (a7.below B6'.size (by omega) (by omega) (by omega))
  have z7 : w6.heap.size ≤ w7.heap.size := a7.size
  have P27' := hid p7
  have C7 := hid hc7
  clear p7 a7 hc7 P26 P16
  go_wp2_with fail
  refine (zzended_any c2 g2 h21 n sens _ i hi _ P27'.out).mono ?_
  rintro e w8 ⟨rfl, h22, p8, a8, hh8, hc8⟩
  have t7 := P27'.out.lts
  have t7' := P17.out.lts
  have N2 := hid (chan_two t6.2.2 z7 hh7 hh8 C7.out hc8)
  have P1 := hid (P17.out.apart a8 (by omega) (by omega) (by omega))
  have B6 : Below W.heap.size W w8 := B7'.trans (a8.below B7'.size (by omega) (by omega) (by omega))
  have P2 := hid p8
  clear p8 a8 hc8 P27' P17 C7 B4 B5 B6' B7' hh5 hh6 hh7 hh8 t4 t4' t5 t5' t6 t6' t7 t7' z5 z6 z7 m1 m2 m3 m4
  obtain ⟨x0, x1, x2, x3, x4, x5⟩ := (HQ.out.below B6 hb).at hi
  obtain ⟨y0, y1, y2, y3, y4, y5⟩ := (HQ.out.below B6 hb).at hj
  clear x0 x3 x4 x5 y0 y3 y4 y5
  have hnc := run_neq_chan
  have e1 : (h12 != h10) = (pend (q i) || pend (q j)) := N1.out
  have e2 : (h22 != h20) = (pend (q i) || pend (q j)) := by rw [N2.out, Bool.or_comm]
  have F1 := hid (fun (r : Nat) (Wx : World) (hx : Below W.heap.size W Wx) (T : PlRow Wx r 55 n n (endAt (endAt q i) j)) => after_any b off n cap r q (endAt (endAt q i) j) i j Wx hn (Nat.lt_of_lt_of_le hb hx.size) T.lt (HQ.out.below hx hb) T.pls (fun k _ => two_want q i j k))
  have F2 := hid (fun (r : Nat) (Wx : World) (hx : Below W.heap.size W Wx) (T : PlRow Wx r 55 n n (endAt (endAt q j) i)) => after_any b off n cap r q (endAt (endAt q j) i) i j Wx hn (Nat.lt_of_lt_of_le hb hx.size) T.lt (HQ.out.below hx hb) T.pls (fun k _ => (two_want q j i k).trans (want_comm q j i k)))
  clear N1 N2
  cases hki : (q i).kn <;> cases hui : (q i).un <;> cases hkj : (q j).kn <;> cases huj : (q j).un
  all_goals
    rw [hki] at x1
    rw [hui] at x2
    rw [hkj] at y1
    rw [huj] at y2
    simp only [pend, hki, hui, hkj, huj, Bool.not_true, Bool.not_false, Bool.and_true, Bool.and_false, Bool.or_true, Bool.or_false] at e1 e2
    clear hki hui hkj huj
    go_wp2_with fail
    refine (changed_any c1 g1 h12 n sens _ _ P1.out).mono ?_
    rintro e x1 ⟨rfl, rfl⟩
    go_wp2_with fail
    refine (changed_any c2 g2 h22 n sens _ _ P2.out).mono ?_
    rintro e x1 ⟨rfl, rfl⟩
    go_wp2_with fail
    refine (sensors_any c1 g1 h12 n sens _ _ P1.out).mono ?_
    rintro e x1 ⟨rfl, rfl⟩
    go_wp2_with fail
    refine (sensors_any c2 g2 h22 n sens _ _ P2.out).mono ?_
    rintro e x1 ⟨rfl, rfl⟩
    go_wp2_with fail
    refine (pmus_any c1 g1 h12 n sens _ _ hn P1.out).mono ?_
    rintro e w7 ⟨rfl, b7, r7⟩
    have B7 : Below W.heap.size W w7 := B6.trans (b7.mono B6.size)
    have R7 := hid r7
    have P27 := hid (P2.out.below b7 (Nat.le_refl _))
    clear r7 b7
    go_wp2_with fail
    refine (F1.out _ _ B7 R7.out).mono ?_
    rintro e w8 ⟨rfl, b8⟩
    have B8 : Below W.heap.size W w8 := B7.trans (b8.mono B7.size)
    have P28 := hid (P27.out.below b8 (Nat.le_refl _))
    clear b8 R7 P27
    go_wp2_with fail
    refine (pmus_any c2 g2 h22 n sens _ _ hn P28.out).mono ?_
    rintro e w9 ⟨rfl, b9, r9⟩
    have B9 : Below W.heap.size W w9 := B8.trans (b9.mono B8.size)
    have R9 := hid r9
    clear r9 b9
    go_wp2_with fail
    refine (F2.out _ _ B9 R9.out).mono ?_
    rintro e w10 ⟨rfl, b10⟩
    have B10 := hid (B9.trans (b10.mono B9.size))
    clear b10
    go_wp2
    go_ret
    exact ⟨rfl, B10.out⟩

theorem law6_huge (sens i j : Int) (a : Option Addr) (n cap : Nat) (W : World) (hn : ¬ n ≤ 1048576) :
    Calls Try.prog 6 #[.int .i64 sens, .slice a n cap, .int .i64 i, .int .i64 j] W fun e w' => e = .returned (.bool true) ∧ Below W.heap.size W w' := by
  go_enter Try.func6, Try.ntmps6
  go_wp2_with (go_at_call 22; refine (zzb22_no _ _ _ _ n cap _ hn).mono ?_; rintro e w1 ⟨rfl, rfl⟩)
  go_ret
  exact ⟨rfl, Below.refl _ _⟩
theorem law6_large (sens i j : Int) (a : Option Addr) (n cap : Nat) (W : World) (hn : n ≤ 1048576) (hn2 : ¬ n ≤ 32768) :
    Calls Try.prog 6 #[.int .i64 sens, .slice a n cap, .int .i64 i, .int .i64 j] W fun e w' => e = .returned (.bool true) ∧ Below W.heap.size W w' := by
  go_enter Try.func6, Try.ntmps6
  go_wp2_with (go_at_call 22; refine (zzb22_yes _ _ _ _ n cap _ hn).mono ?_; rintro e w1 ⟨rfl, rfl⟩)
  go_ret
  exact ⟨rfl, Below.refl _ _⟩
set_option maxHeartbeats 800000 in
theorem law6_out (sens i j : Int) (a : Option Addr) (n cap : Nat) (W : World) (hn : n ≤ 32768) (hi : i < 0 ∨ (n : Int) ≤ i ∨ j < 0 ∨ (n : Int) ≤ j) :
    Calls Try.prog 6 #[.int .i64 sens, .slice a n cap, .int .i64 i, .int .i64 j] W fun e w' => e = .returned (.bool true) ∧ Below W.heap.size W w' := by
  have hm : n ≤ 1048576 := by omega
  have hh : i < 0 ∨ (0 ≤ i ∧ (n : Int) ≤ i) ∨ (0 ≤ i ∧ i < (n : Int) ∧ j < 0) ∨ (0 ≤ i ∧ i < (n : Int) ∧ 0 ≤ j ∧ (n : Int) ≤ j) := by omega
  clear hi
  rcases hh with h1 | ⟨h1, h2⟩ | ⟨h1, h2, h3⟩ | ⟨h1, h2, h3, h4⟩
  all_goals
    go_enter Try.func6, Try.ntmps6
    go_wp2_with (go_at_call 22; refine (zzb22_yes _ _ _ _ n cap _ hm).mono ?_; rintro e w1 ⟨rfl, rfl⟩)
    go_ret
    exact ⟨rfl, Below.refl _ _⟩

/-- THE LAW, at every input. -/
theorem law6_any (sens i j : Int) (a : Option Addr) (n cap : Nat) (q : Nat → Pl) (W : World) (hq : PlsIn W a n q) :
    Calls Try.prog 6 #[.int .i64 sens, .slice a n cap, .int .i64 i, .int .i64 j] W fun e w' => e = .returned (.bool true) ∧ Below W.heap.size W w' := by
  by_cases h1 : n ≤ 1048576
  · by_cases h2 : n ≤ 32768
    · by_cases h3 : i < 0 ∨ (n : Int) ≤ i ∨ j < 0 ∨ (n : Int) ≤ j
      · exact law6_out sens i j a n cap W h2 h3
      · obtain ⟨k, rfl⟩ := Int.eq_ofNat_of_zero_le (show 0 ≤ i by omega)
        obtain ⟨l, rfl⟩ := Int.eq_ofNat_of_zero_le (show 0 ≤ j by omega)
        rcases hq with rfl | ⟨b, off, rfl, hb, hq⟩
        · omega
        · exact law6 sens b off n cap q k l W h2 (by omega) (by omega) hb hq
    · exact law6_large sens i j a n cap W h1 h2
  · exact law6_huge sens i j a n cap W h1
end Go.Proofs.Qxb6615186a
