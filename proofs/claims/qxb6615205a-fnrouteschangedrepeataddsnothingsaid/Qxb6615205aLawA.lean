/-
  The first law walked.
-/
import Derived.Test.Qxb6615205aShare
import Derived.Deep.QuietTactic
import Derived.BigQuiet
namespace Go.Proofs.Qxb6615205a
open Go.RowKit

theorem fa_step (S : Nat → Nat) (m q x : Nat) (h : q < m) : fa S m (m - q) x = if x = S q then (q : Int) else fa S m (m - (q + 1)) x := by
  obtain ⟨t, ht⟩ : ∃ t, m - q = t + 1 := ⟨m - q - 1, by omega⟩
  have h1 : m - 1 - t = q := by omega
  have h2 : m - (q + 1) = t := by omega
  rw [ht, h2, fa, h1]

theorem is_b (B n i : Nat) (L : List Nat) (v : Value) (w : World) (b : Bool) (h : RS w B n L v) (hi : i < n) (hb : decide (i ∈ L) = b) :
    Calls Try.prog 12 #[grp B i] w fun e w' => e = .returned (.bool b) ∧ w' = w := by
  refine (is_any B n i L v w h hi).mono ?_
  rintro e w' ⟨rfl, rfl⟩
  exact ⟨by rw [hb], rfl⟩

theorem at_b (B n p i : Nat) (L : List Nat) (v : Value) (w : World) (h : RS w B n L v) (hp : L[p]? = some i) :
    Calls Try.prog 11 #[.pointer (some ⟨B, 0, none⟩), .int .i64 p] w fun e w' => e = .returned (grp B i) ∧ w' = w := by
  refine (at_any B n p i L v w h hp).mono ?_
  rintro e w' ⟨rfl, rfl⟩
  exact ⟨rfl, rfl⟩

set_option maxHeartbeats 4000000 in
set_option maxRecDepth 100000 in
theorem law3_any (a1 a2 : Option Addr) (n c1 m c2 : Nat) (s : Nat → ByteArray) (z : Nat → Int) (W : World) (hs : Strs W a1 n s) (hz : Ints W a2 m z) :
    Calls Try.prog 3 #[.slice a1 n c1, .slice a2 m c2] W fun e w' => e = .returned (.bool true) ∧ Below W.heap.size W w' := by
  have HS := hid hs
  have HI := hid hz
  clear hs hz
  go_enter Try.func3, Try.ntmps3
  go_wp2_with fail
  refine (zzb5_any a1 a2 n c1 m c2 s _ HS.out).mono ?_
  rintro e w1 ⟨hf, rfl⟩
  rcases hf with rfl | ⟨rfl, hsz⟩
  · go_wp2
    go_ret
    exact ⟨rfl, Below.refl _ _⟩
  have HZ := hid hsz
  clear hsz
  go_wp2_with fail
  refine (big_any a1 a2 n c1 m c2 s _ HS.out HZ.out).mono ?_
  rintro e w1 ⟨hf, rfl⟩
  rcases hf with rfl | ⟨rfl, hn, hm⟩
  · go_wp2
    go_ret
    exact ⟨rfl, Below.refl _ _⟩
  go_wp2_with fail
  refine (range_any a2 n m c2 z _ hm HI.out).mono ?_
  rintro e w1 ⟨hf, rfl⟩
  rcases hf with rfl | ⟨rfl, hr⟩
  · go_wp2
    go_ret
    exact ⟨rfl, Below.refl _ _⟩
  obtain ⟨S, hS, hSn⟩ := Steps.of HI.out hr
  have HT := hid hS
  have HN := hid hSn
  clear hS hSn hr HI HZ
  go_wp2_with fail
  refine (groups_any a1 n c1 s W.heap.size _ hn (HS.out.below ((Below.refl _ _).alloc (Nat.le_refl _) _) (Nat.le_refl _)) (by simp)).mono ?_
  rintro e w1 ⟨rfl, hG, hsz, hbl⟩
  have R0 := hid (rs_start (Deep.blk_alloc_new _ _) rfl hbl hG)
  have B0 : Hid (Below W.heap.size W w1) := ((Below.refl W.heap.size W).alloc (Nat.le_refl _) _).trans (hbl.mono (by omega))
  clear hG hbl hsz HS
  go_wp2
  go_loopw [7] (fun i wr => ∃ (k : Nat) (v : Value), k ≤ m ∧ i = .int .i64 k ∧ Below W.heap.size W wr ∧ RS wr W.heap.size n (Lk S k) v) (fun i _ => m - (intOf i).toNat)
  case atStart => exact ⟨0, _, Nat.zero_le _, rfl, B0.out, R0.out⟩
  case round =>
    obtain ⟨k, v, hk, rfl, hbel, hR⟩ := hrel
    have HB := hid hbel
    have HR := hid hR
    clear hbel hR
    by_cases hlt : k < m
    · obtain ⟨b, off, ea, lt, hc⟩ := HT.out.below HB.out (Nat.le_refl _) k hlt
      subst ea
      have hk2 := HN.out k hlt
      have i1 : (k : Int) < (m : Int) := by omega
      have i2 : (0 : Int) ≤ (S k : Int) := by omega
      have i3 : (S k : Int) < (n : Int) := by omega
      have p1 := HR.out.pick hk2
      have l1 := HR.out.lt
      go_wp2_with fail
      refine (mark9_any W.heap.size n (S k) (Lk S k) v _ HR.out hk2 (by have := Lk_len S k; omega)).mono ?_
      rintro e w2 ⟨rfl, v2, hR2, hb2, _⟩
      have HR2 := hid hR2
      have HB2 := hid hb2
      clear hR2 hb2 p1 hc
      go_wp2
      go_roundw
      case rel => exact ⟨k + 1, v2, by omega, by go_num, HB.out.trans HB2.out, HR2.out⟩
      case measure => simp [intOf]; omega
    · have HM : Hid (RS wr W.heap.size n (Lk S m) v) := by
        have e : k = m := by omega
        rw [← e]
        exact HR
      clear HR
      obtain ⟨hRA, hv, hF⟩ := HM.out.alloc (.cells (madeCells #[.int .i64 0] n) 3)
      have RA := hid hRA
      have HV := hid hv
      have BA : Hid (Below W.heap.size W (wr.alloc (.cells (madeCells #[.int .i64 0] n) 3))) := HB.out.alloc HB.out.size _
      have MA := hid (World.rowIs_made wr (.int .i64 0) n 3)
      have hmk := run_make_row' (P := Try.prog) 23 3 (.int .i64 0) 8 Try.underlying23 Try.info3 rfl .i64 .i64 n (by omega) (by omega)
      obtain ⟨F, eF⟩ : ∃ F, wr.heap.size = F := ⟨_, rfl⟩
      clear hRA hv HM
      go_wp2
      rw [eF] at MA HV hF
      go_loopw [9] (fun i w2 => ∃ (k : Nat), k ≤ n ∧ i = .int .i64 k ∧ Below W.heap.size W w2 ∧ RS w2 W.heap.size n (Lk S m) v ∧ w2.rowIs F 3 n (fun x => .int .i64 (if x < k then -1 else 0))) (fun i _ => n - (intOf i).toNat)
      case atStart => exact ⟨0, Nat.zero_le _, rfl, BA.out, RA.out, MA.out⟩
      case round =>
        clear hmk BA RA MA HB R0 B0
        obtain ⟨k2, hk2, rfl, hbel2, hR2, hM2⟩ := hrel
        have HB2 := hid hbel2
        have HR2 := hid hR2
        have HM2 := hid hM2
        have lF := hM2.lt
        clear hbel2 hR2 hM2
        by_cases hlt2 : k2 < n
        · have d1 := HM2.out.cell hlt2
          have d2 := HM2.out.frozen k2
          have i1 : (k2 : Int) < (n : Int) := by omega
          go_wp2
          go_roundw
          case rel => exact ⟨k2 + 1, by omega, by go_num, HB2.out.setCell (by simp; omega) _, HR2.out.grown (grownBy_set _ _ _) hF HV.out, (HM2.out.set k2 _).congr (fun x hx => by
            by_cases e : x = k2
            · simp [e]
            · have : (x < k2 + 1) ↔ (x < k2) := by omega
              simp [e, this])⟩
          case measure => simp [intOf]; omega
        · have M3 : Hid (wr.rowIs F 3 n (fun x => .int .i64 (fa S m (m - m) x))) := HM2.out.congr (fun x hx => by
            have : x < k2 := by omega
            simp [fa, this])
          clear HM2
          go_wp2
          go_loopw [10] (fun i w3 => ∃ (q : Nat), q ≤ m ∧ i = .int .i64 ((q : Int) - 1) ∧ Below W.heap.size W w3 ∧ RS w3 W.heap.size n (Lk S m) v ∧ w3.rowIs F 3 n (fun x => .int .i64 (fa S m (m - q) x))) (fun i _ => (intOf i + 1).toNat)
          case atStart => exact ⟨m, Nat.le_refl _, by go_num, HB2.out, HR2.out, M3.out⟩
          case round =>
            clear M3 HB2 HR2 lF
            obtain ⟨q, hq, hi, hbel3, hR3, hM3⟩ := hrel
            have HB3 := hid hbel3
            have HR3 := hid hR3
            have HM3 := hid hM3
            have lF := hM3.lt
            clear hbel3 hR3 hM3
            rcases q with _ | q
            case succ =>
              obtain rfl := hi.trans (show _ = Value.int .i64 (q : Int) by congr 1; omega)
              obtain ⟨b, off, ea, lt, hc⟩ := HT.out.below HB3.out (Nat.le_refl _) q (by omega)
              subst ea
              have hk3 := HN.out q (by omega)
              have d1 := HM3.out.cell hk3
              have d2 := HM3.out.frozen (S q)
              have i0 : (0 : Int) ≤ (q : Int) := by omega
              have i1 : (q : Int) < (m : Int) := by omega
              have i2 : (0 : Int) ≤ (S q : Int) := by omega
              have i3 : (S q : Int) < (n : Int) := by omega
              clear hi
              go_wp2
              go_roundw
              case rel => exact ⟨q, by omega, by go_num, HB3.out.setCell (by simp; omega) _, HR3.out.grown (grownBy_set _ _ _) hF HV.out, (HM3.out.set (S q) _).congr (fun x hx => by
                rw [fa_step S m q x (by omega)]
                split <;> rfl)⟩
              case measure => simp [intOf]
            case zero =>
              obtain rfl := hi.trans (show _ = Value.int .i64 (-1) by congr 1)
              have M4 : Hid (wr.rowIs F 3 n (fun x => .int .i64 (fa S m m x))) := HM3.out
              clear hi HM3
              go_wp2_with fail
              refine (count_any W.heap.size n (Lk S m) v _ HR3.out).mono ?_
              rintro e w4 ⟨rfl, rfl⟩
              go_wp2
              go_loopw [12, 13] (fun p i w4 => ∃ (k : Nat), k ≤ m ∧ i = .int .i64 k ∧ p = .int .i64 (Lk S k).length ∧ Below W.heap.size W w4 ∧ RS w4 W.heap.size n (Lk S m) v ∧ w4.rowIs F 3 n (fun x => .int .i64 (fa S m m x))) (fun _ i _ => m - (intOf i).toNat)
              case atStart => exact ⟨0, Nat.zero_le _, rfl, rfl, HB3.out, HR3.out, M4.out⟩
              case round =>
                clear HB3 HR3 M4 lF
                obtain ⟨k, hk, rfl, rfl, hbel4, hR4, hM4⟩ := hrel
                have HB4 := hid hbel4
                have HR4 := hid hR4
                have HM4 := hid hM4
                have lF := hM4.lt
                clear hbel4 hR4 hM4
                have lk := Lk_len S k
                have lm := Lk_len S m
                by_cases hlt : k < m
                · obtain ⟨b, off, ea, lt, hc⟩ := HT.out.below HB4.out (Nat.le_refl _) k hlt
                  subst ea
                  have hk3 := HN.out k hlt
                  have d1 := HM4.out.cell hk3
                  have i1 : (k : Int) < (m : Int) := by omega
                  have i2 : (0 : Int) ≤ (S k : Int) := by omega
                  have i3 : (S k : Int) < (n : Int) := by omega
                  have p1 := HR4.out.pick hk3
                  have l1 := HR4.out.lt
                  by_cases hin : S k ∈ Lk S k
                  · have t1 : (fa S m m (S k) == (k : Int)) = false := by
                      rw [beq_eq_false_iff_ne]
                      intro e
                      exact (fa_iff S m k hlt).1 e hin
                    have HE := hid (congrArg List.length (Lk_again S k hin))
                    clear hin
                    go_wp2
                    go_roundw
                    case rel => exact ⟨k + 1, by omega, by go_num, by rw [HE.out], HB4.out, HR4.out, HM4.out⟩
                    case measure => simp [intOf]; omega
                  · have t1 : fa S m m (S k) = (k : Int) := (fa_iff S m k hlt).2 hin
                    rw [t1] at d1
                    obtain ⟨hg, hl, hl1⟩ := Lk_first S k m hlt hin
                    have HG := hid hg
                    have HL := hid hl1
                    have hd : decide (((Lk S m).length : Int) ≤ ((Lk S k).length : Int)) = false := by
                      rw [decide_eq_false_iff_not]; omega
                    have hne := neq41
                    clear hg hl1 hin t1
                    go_wp2
                    go_quiet ((go_at_call 11; exact Calls.quiet_of_same (at_b _ n _ _ _ v _ (HR4.out.drewN _) HG.out)))
                    go_wp2
                    go_roundw
                    case rel => exact ⟨k + 1, by omega, by go_num, by rw [HL.out]; go_num, below_drewN HB4.out _, HR4.out.drewN _, HM4.out⟩
                    case measure => simp [intOf]; omega
                · have e : Hid ((Lk S k).length = (Lk S m).length) := by rw [show k = m by omega]; exact rfl
                  have t1 : (((Lk S k).length : Int) == ((Lk S m).length : Int)) = true := by rw [e.out]; simp
                  go_wp2
                  go_loopw [14] (fun i w5 => ∃ (k : Nat), k ≤ n ∧ i = .int .i64 k ∧ Below W.heap.size W w5 ∧ RS w5 W.heap.size n (Lk S m) v ∧ w5.rowIs F 3 n (fun x => .int .i64 (fa S m m x))) (fun i _ => n - (intOf i).toNat)
                  case atStart => exact ⟨0, Nat.zero_le _, rfl, HB4.out, HR4.out, HM4.out⟩
                  case round =>
                    clear HB4 HR4 HM4 lF e t1
                    obtain ⟨k, hk, rfl, hbel5, hR5, hM5⟩ := hrel
                    have HB5 := hid hbel5
                    have HR5 := hid hR5
                    have HM5 := hid hM5
                    have lF := hM5.lt
                    clear hbel5 hR5 hM5
                    by_cases hlt : k < n
                    · have d1 := HM5.out.cell hlt
                      have i1 : (k : Int) < (n : Int) := by omega
                      have p1 := HR5.out.pick hlt
                      have l1 := HR5.out.lt
                      have hp := fa_pos S m k
                      cases hin : decide (k ∈ Lk S m) with
                      | true =>
                        rw [hin] at hp
                        have HH := hid hin
                        clear hin
                        go_wp2
                        go_quiet ((go_at_call 12; exact Calls.quiet_of_same (is_b _ n _ _ v _ _ (HR5.out.drewN _) hlt HH.out)))
                        go_wp2
                        go_roundw
                        case rel => exact ⟨k + 1, by omega, by go_num, below_drewN HB5.out _, HR5.out.drewN _, HM5.out⟩
                        case measure => simp [intOf]; omega
                      | false =>
                        rw [hin] at hp
                        have HH := hid hin
                        clear hin
                        go_wp2
                        go_quiet ((go_at_call 12; exact Calls.quiet_of_same (is_b _ n _ _ v _ _ (HR5.out.drewN _) hlt HH.out)))
                        go_wp2
                        go_roundw
                        case rel => exact ⟨k + 1, by omega, by go_num, below_drewN HB5.out _, HR5.out.drewN _, HM5.out⟩
                        case measure => simp [intOf]; omega
                    · go_wp2
                      go_ret
                      exact ⟨rfl, HB5.out⟩
end Go.Proofs.Qxb6615205a
