/-
  THE LAW FnEndedTwiceIsEndedOnce, out of its callees contracts.
-/
import Derived.Test.Qxb6615186aPmus
import Derived.Test.Qxb6615186aAfter
namespace Go.Proofs.Qxb6615186a
open Go.RowKit

/-! ### zzBytes -/
theorem zzb14_yes (s i : Int) (a : Option Addr) (n cap : Nat) (w : World) (hn : n ≤ 1048576) :
    Calls Try.prog 14 #[.int .i64 s, .slice a n cap, .int .i64 i] w fun e w' => e = .returned (.bool true) ∧ w = w' := by
  go_enter Try.func14, Try.ntmps14
  go_wp2
  go_ret
  exact ⟨rfl, rfl⟩
theorem zzb14_no (s i : Int) (a : Option Addr) (n cap : Nat) (w : World) (hn : ¬ n ≤ 1048576) :
    Calls Try.prog 14 #[.int .i64 s, .slice a n cap, .int .i64 i] w fun e w' => e = .returned (.bool false) ∧ w = w' := by
  go_enter Try.func14, Try.ntmps14
  go_wp2
  go_ret
  exact ⟨rfl, rfl⟩

/-! ### plain -/
theorem pend_endAt (q : Nat → Pl) (i : Nat) : pend (endAt q i i) = false := by
  unfold endAt
  by_cases h : pend (q i) = true
  · rw [if_pos ⟨rfl, h⟩]; simp [pend]
  · simp [h]
theorem endAt_twice (q : Nat → Pl) (i : Nat) : endAt (endAt q i) i = endAt q i := endAt_no _ _ (pend_endAt q i)
theorem endAt_want (q : Nat → Pl) (i k : Nat) : endAt q i k = wantAt q i i k := by
  unfold endAt wantAt
  by_cases e : k = i
  · subst e; simp
  · simp [e]

/-! ### memory -/
theorem Placed.below {w w' : World} {c g h n : Nat} {sens : Int} {q : Nat → Pl} (P : Placed w c g h n sens q) {B : Nat} (hb : Below B w w') (hB : w.heap.size ≤ B) : Placed w' c g h n sens q := by
  obtain ⟨_, _, _, _, _, lc, lg, lh, _, _, _⟩ := P.cells
  exact ⟨(hb.block c (by omega)).trans P.obj, P.row.of_block (hb.block g (by omega)), (hb.block h (by omega)).trans P.chan⟩

theorem PlRow.apart {w w' : World} {r t n k c g h : Nat} {q : Nat → Pl} (R : PlRow w r t n k q) (A : Apart c g h w w') (h1 : r ≠ c) (h2 : r ≠ g) (h3 : r ≠ h) : PlRow w' r t n k q :=
  R.of_block (A.block r R.lt h1 h2 h3)

theorem PlRow.below {w w' : World} {r t n k : Nat} {q : Nat → Pl} (R : PlRow w r t n k q) {B : Nat} (hb : Below B w w') (hB : w.heap.size ≤ B) : PlRow w' r t n k q :=
  R.of_block (hb.block r (by have := R.lt; omega))

theorem run_equalIn_chan (w : World) (d a b : Nat) : (Op.equalIn (d + 1) 41 (.chan (some a)) (.chan (some b))).run Try.prog w = .ok (a == b) w := by
  simp [Op.equalIn, run_underlying Try.underlying41]
theorem run_neq_chan (w : World) (a b : Nat) : (binOp .neq 41 (.chan (some a)) (.chan (some b))).run Try.prog w = .ok (.bool (a != b)) w := by
  simp only [binOp]
  simp [Op.equal, Op.maxDepth, run_equalIn_chan w 9999 a b, bne]

set_option maxHeartbeats 2000000 in
set_option maxRecDepth 100000 in
theorem law5 (sens : Int) (b off n cap : Nat) (q : Nat → Pl) (i : Nat) (W : World) (hn : n ≤ 32768) (hi : i < n) (hb : b < W.heap.size) (hq : Pls W b off n q) :
    Calls Try.prog 5 #[.int .i64 sens, .slice (some ⟨b, off, none⟩) n cap, .int .i64 i] W fun e w' => e = .returned (.bool true) ∧ Below W.heap.size W w' := by
  have HQ := hid hq
  have hd0 : decide ((32768 : Int) < (n : Int)) = false := by simp; omega
  have hd1 : decide ((i : Int) < 0) = false := by simp
  have hd2 : decide ((n : Int) ≤ (i : Int)) = false := by simp; omega
  have i1 : (i : Int) < (n : Int) := by omega
  clear hq
  go_enter Try.func5, Try.ntmps5
  go_wp2_with fail
  refine (zzb14_yes _ _ _ n cap _ (by omega)).mono ?_
  rintro e w1 ⟨rfl, rfl⟩
  go_wp2_with fail
  refine (copyPl_any b off n cap q _ hn hb HQ.out).mono ?_
  rintro e w1 ⟨rfl, b1, r1⟩
  have R1 := hid r1
  clear r1
  go_wp2_with fail
  refine (newPl_any sens W.heap.size n q _ hn R1.out.lt R1.out.pls).mono ?_
  rintro e w2 ⟨c, g, h, rfl, lc, lg, lh, b2, p2⟩
  have s1 := b1.size
  have B2 : Below W.heap.size W w2 := b1.trans (b2.mono s1)
  have P2 := hid p2
  clear p2 b2 R1 b1
  go_wp2_with fail
  refine (changed_any c g h n sens q _ P2.out).mono ?_
  rintro e w3 ⟨rfl, rfl⟩
  go_wp2_with fail
  refine (zzended_any c g h n sens q i hi _ P2.out).mono ?_
  rintro e w3 ⟨rfl, h1, p3, a3, hh1, hc1⟩
  have lh1 : W.heap.size ≤ h1 := by have := B2.size; omega
  have B3 : Below W.heap.size W w3 := B2.trans (a3.below B2.size (by omega) (by omega) (by omega))
  have P3 := hid p3
  have C1 := hid hc1
  clear p3 a3 hc1 P2 B2
  go_wp2_with fail
  refine (changed_any c g h1 n sens _ _ P3.out).mono ?_
  rintro e w4 ⟨rfl, rfl⟩
  go_wp2_with fail
  refine (pmus_any c g h1 n sens _ _ hn P3.out).mono ?_
  rintro e w4 ⟨rfl, b4, r4⟩
  have s4 := P3.out.cells
  have B4 : Below W.heap.size W w4 := B3.trans (b4.mono B3.size)
  have P4 := hid (P3.out.below b4 (Nat.le_refl _))
  have R4 := hid r4
  have n4 : w3.heap.size ≠ c ∧ w3.heap.size ≠ g ∧ w3.heap.size ≠ h1 := by omega
  have z4 : W.heap.size ≤ w3.heap.size := B3.size
  clear r4 b4 P3 s4
  go_wp2_with fail
  refine (zzended_any c g h1 n sens _ i hi _ P4.out).mono ?_
  rintro e w5 ⟨rfl, h2, p5, a5, hh2, hc2⟩
  rw [endAt_twice] at p5
  rw [pend_endAt] at hc2
  have B5 : Below W.heap.size W w5 := B4.trans (a5.below B4.size (by omega) (by omega) (by omega))
  have P5 := hid p5
  have C2 := hid hc2
  have R5 := hid (R4.out.apart a5 n4.1 n4.2.1 n4.2.2)
  clear p5 a5 hc2 P4 R4 B4
  go_wp2_with fail
  refine (changed_any c g h2 n sens _ _ P5.out).mono ?_
  rintro e w6 ⟨rfl, rfl⟩
  go_wp2_with fail
  refine (pmus_any c g h2 n sens _ _ hn P5.out).mono ?_
  rintro e w6 ⟨rfl, b6, r6⟩
  have B6 : Below W.heap.size W w6 := B5.trans (b6.mono B5.size)
  have P6 := hid (P5.out.below b6 (Nat.le_refl _))
  have R6 := hid r6
  have T6 := hid (R5.out.below b6 (Nat.le_refl _))
  clear r6 b6 P5 R5
  obtain ⟨x0, x1, x2, x3, x4, x5⟩ := (HQ.out.below B6 hb).at hi
  have hnc := run_neq_chan
  have e1 : (h1 != h) = pend (q i) := C1.out
  have e2 : (h2 != h1) = false := C2.out
  have kk : ((q i).kn = true) ∨ ((q i).kn = false ∧ (q i).un = true) ∨ ((q i).kn = false ∧ (q i).un = false) := by
    cases (q i).kn <;> cases (q i).un <;> simp
  have F1 := hid (fun (Wx : World) (hx : Below W.heap.size W Wx) (T : PlRow Wx w3.heap.size 55 n n (endAt q i)) => after_any b off n cap w3.heap.size q (endAt q i) i i Wx hn (Nat.lt_of_lt_of_le hb hx.size) T.lt (HQ.out.below hx hb) T.pls (fun k _ => endAt_want q i k))
  have F2 := hid (fun (Wx : World) (hx : Below W.heap.size W Wx) (T : PlRow Wx w5.heap.size 55 n n (endAt q i)) => after_any b off n cap w5.heap.size q (endAt q i) i i Wx hn (Nat.lt_of_lt_of_le hb hx.size) T.lt (HQ.out.below hx hb) T.pls (fun k _ => endAt_want q i k))
  rcases kk with hk | ⟨hk, hu⟩ | ⟨hk, hu⟩
  · rw [show pend (q i) = false by simp [pend, hk]] at e1
    rw [hk] at x1
    clear hk
    go_wp2_with fail
    refine (sensors_any c g h2 n sens _ _ P6.out).mono ?_
    rintro e w7 ⟨rfl, rfl⟩
    go_wp2_with fail
    refine (F1.out _ B6 T6.out).mono ?_
    rintro e w7 ⟨rfl, b7⟩
    go_wp2_with fail
    refine (F2.out _ (B6.trans (b7.mono B6.size)) (R6.out.below b7 (Nat.le_refl _))).mono ?_
    rintro e w8 ⟨rfl, b8⟩
    have B8 := hid ((B6.trans (b7.mono B6.size)).trans (b8.mono (Nat.le_trans B6.size b7.size)))
    go_wp2
    go_ret
    exact ⟨rfl, B8.out⟩
  · rw [show pend (q i) = false by simp [pend, hu]] at e1
    rw [hk] at x1
    rw [hu] at x2
    clear hk hu
    go_wp2_with fail
    refine (sensors_any c g h2 n sens _ _ P6.out).mono ?_
    rintro e w7 ⟨rfl, rfl⟩
    go_wp2_with fail
    refine (F1.out _ B6 T6.out).mono ?_
    rintro e w7 ⟨rfl, b7⟩
    go_wp2_with fail
    refine (F2.out _ (B6.trans (b7.mono B6.size)) (R6.out.below b7 (Nat.le_refl _))).mono ?_
    rintro e w8 ⟨rfl, b8⟩
    have B8 := hid ((B6.trans (b7.mono B6.size)).trans (b8.mono (Nat.le_trans B6.size b7.size)))
    go_wp2
    go_ret
    exact ⟨rfl, B8.out⟩
  · rw [show pend (q i) = true by simp [pend, hk, hu]] at e1
    rw [hk] at x1
    rw [hu] at x2
    clear hk hu
    go_wp2_with fail
    refine (sensors_any c g h2 n sens _ _ P6.out).mono ?_
    rintro e w7 ⟨rfl, rfl⟩
    go_wp2_with fail
    refine (F1.out _ B6 T6.out).mono ?_
    rintro e w7 ⟨rfl, b7⟩
    go_wp2_with fail
    refine (F2.out _ (B6.trans (b7.mono B6.size)) (R6.out.below b7 (Nat.le_refl _))).mono ?_
    rintro e w8 ⟨rfl, b8⟩
    have B8 := hid ((B6.trans (b7.mono B6.size)).trans (b8.mono (Nat.le_trans B6.size b7.size)))
    go_wp2
    go_ret
    exact ⟨rfl, B8.out⟩

theorem law5_huge (sens i : Int) (a : Option Addr) (n cap : Nat) (W : World) (hn : ¬ n ≤ 1048576) :
    Calls Try.prog 5 #[.int .i64 sens, .slice a n cap, .int .i64 i] W fun e w' => e = .returned (.bool true) ∧ Below W.heap.size W w' := by
  go_enter Try.func5, Try.ntmps5
  go_wp2_with (go_at_call 14; refine (zzb14_no _ _ _ n cap _ hn).mono ?_; rintro e w1 ⟨rfl, rfl⟩)
  go_ret
  exact ⟨rfl, Below.refl _ _⟩
theorem law5_large (sens i : Int) (a : Option Addr) (n cap : Nat) (W : World) (hn : n ≤ 1048576) (hn2 : ¬ n ≤ 32768) :
    Calls Try.prog 5 #[.int .i64 sens, .slice a n cap, .int .i64 i] W fun e w' => e = .returned (.bool true) ∧ Below W.heap.size W w' := by
  go_enter Try.func5, Try.ntmps5
  go_wp2_with (go_at_call 14; refine (zzb14_yes _ _ _ n cap _ hn).mono ?_; rintro e w1 ⟨rfl, rfl⟩)
  go_ret
  exact ⟨rfl, Below.refl _ _⟩
theorem law5_out (sens i : Int) (a : Option Addr) (n cap : Nat) (W : World) (hn : n ≤ 32768) (hi : i < 0 ∨ (n : Int) ≤ i) :
    Calls Try.prog 5 #[.int .i64 sens, .slice a n cap, .int .i64 i] W fun e w' => e = .returned (.bool true) ∧ Below W.heap.size W w' := by
  have hm : n ≤ 1048576 := by omega
  by_cases h0 : i < 0
  · go_enter Try.func5, Try.ntmps5
    go_wp2_with (go_at_call 14; refine (zzb14_yes _ _ _ n cap _ hm).mono ?_; rintro e w1 ⟨rfl, rfl⟩)
    go_ret
    exact ⟨rfl, Below.refl _ _⟩
  · have h1 : (n : Int) ≤ i := by omega
    clear hi
    go_enter Try.func5, Try.ntmps5
    go_wp2_with (go_at_call 14; refine (zzb14_yes _ _ _ n cap _ hm).mono ?_; rintro e w1 ⟨rfl, rfl⟩)
    go_ret
    exact ⟨rfl, Below.refl _ _⟩

/-- what is known of the slice of places that came in -/
def PlsIn (w : World) (a : Option Addr) (n : Nat) (q : Nat → Pl) : Prop := n = 0 ∨ ∃ b off, a = some ⟨b, off, none⟩ ∧ b < w.heap.size ∧ Pls w b off n q

/-- THE LAW, at every input. -/
theorem law5_any (sens i : Int) (a : Option Addr) (n cap : Nat) (q : Nat → Pl) (W : World) (hq : PlsIn W a n q) :
    Calls Try.prog 5 #[.int .i64 sens, .slice a n cap, .int .i64 i] W fun e w' => e = .returned (.bool true) ∧ Below W.heap.size W w' := by
  by_cases h1 : n ≤ 1048576
  · by_cases h2 : n ≤ 32768
    · by_cases h3 : i < 0 ∨ (n : Int) ≤ i
      · exact law5_out sens i a n cap W h2 h3
      · obtain ⟨k, rfl⟩ := Int.eq_ofNat_of_zero_le (show 0 ≤ i by omega)
        rcases hq with rfl | ⟨b, off, rfl, hb, hq⟩
        · omega
        · exact law5 sens b off n cap q k W h2 (by omega) hb hq
    · exact law5_large sens i a n cap W h1 h2
  · exact law5_huge sens i a n cap W h1
end Go.Proofs.Qxb6615186a
