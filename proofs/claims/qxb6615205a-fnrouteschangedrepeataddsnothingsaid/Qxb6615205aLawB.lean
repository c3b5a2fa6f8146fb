/-
  The second law walked.
-/
import Derived.Test.Qxb6615205aLawA
import Derived.Test.Qxb6615205aDistinct
namespace Go.Proofs.Qxb6615205a
open Go.RowKit

theorem RS.below {w w' : World} {B n : Nat} {L : List Nat} {v : Value} (h : RS w B n L v) (hb : Below w.heap.size w w') : RS w' B n L v :=
  h.grown (F := w.heap.size) ⟨hb.os, hb.tape, hb.output, hb.size, fun k hk _ => hb.block k hk⟩ h.grps.size (fun e => by have := (h.own.lt _ e).2; omega)

theorem Steps.head {w : World} {a : Option Addr} {m c : Nat} {S : Nat → Nat} (h : Steps w a m S) (hc : c ≤ m) : Steps w a c S := fun i hi => h i (by omega)

/-- the copy of the first n1 of the list -/
def snapF (B : Nat) (L : List Nat) (k : Nat) (x : Nat) : Value := if x < k then grp B (L.getD x 0) else .pointer none

set_option maxHeartbeats 4000000 in
set_option maxRecDepth 100000 in
theorem law4_any (a1 a2 : Option Addr) (n c1 m c2 : Nat) (s : Nat → ByteArray) (z : Nat → Int) (cut : Int) (W : World) (hs : Strs W a1 n s) (hz : Ints W a2 m z) (hcap : m ≤ c2) (hmax : c2 ≤ maxLen) :
    Calls Try.prog 4 #[.slice a1 n c1, .slice a2 m c2, .int .i64 cut] W fun e w' => e = .returned (.bool true) ∧ Below W.heap.size W w' := by
  have HS := hid hs
  have HI := hid hz
  unfold maxLen at hmax
  clear hs hz
  go_enter Try.func4, Try.ntmps4
  go_wp2_with fail
  refine (zzb13_any a1 a2 n c1 m c2 s cut _ HS.out).mono ?_
  rintro e w1 ⟨hf, rfl⟩
  rcases hf with rfl | ⟨rfl, hsz⟩
  · go_wp2
    go_ret
    exact ⟨rfl, Below.refl _ _⟩
  have HZ := hid hsz
  clear hsz
  go_wp2_with fail
  refine (big_any a1 a2 n c1 m c2 s _ HS.out HZ.out).mono ?_
  rintro e w1 ⟨hf, rfl⟩
  rcases hf with rfl | ⟨rfl, hn, hm⟩
  · go_wp2
    go_ret
    exact ⟨rfl, Below.refl _ _⟩
  by_cases hc0 : cut < 0
  · go_wp2
    go_ret
    exact ⟨rfl, Below.refl _ _⟩
  have hd0 : decide (cut < 0) = false := by simpa using hc0
  by_cases hc1 : (m : Int) < cut
  · go_wp2
    go_ret
    exact ⟨rfl, Below.refl _ _⟩
  have hd1 : decide ((m : Int) < cut) = false := by simpa using hc1
  obtain ⟨c, rfl⟩ : ∃ c : Nat, cut = c := ⟨cut.toNat, by omega⟩
  have hcm : c ≤ m := by omega
  go_wp2_with fail
  refine (range_any a2 n m c2 z _ hm HI.out).mono ?_
  rintro e w1 ⟨hf, rfl⟩
  rcases hf with rfl | ⟨rfl, hr⟩
  · go_wp2
    go_ret
    exact ⟨rfl, Below.refl _ _⟩
  obtain ⟨S, hS, hSn⟩ := Steps.of HI.out hr
  have HT := hid hS
  have HN := hid hSn
  clear hS hSn hr HI HZ hd0 hd1 hc0 hc1
  go_wp2_with fail
  refine (groups_any a1 n c1 s W.heap.size _ hn (HS.out.below ((Below.refl _ _).alloc (Nat.le_refl _) _) (Nat.le_refl _)) (by simp)).mono ?_
  rintro e w1 ⟨rfl, hG, hsz, hbl⟩
  have R0 := hid (rs_start (Deep.blk_alloc_new _ _) rfl hbl hG)
  have B0 : Hid (Below W.heap.size W w1) := ((Below.refl W.heap.size W).alloc (Nat.le_refl _) _).trans (hbl.mono (by omega))
  clear hG hbl hsz HS
  go_wp2
  go_loopw [9] (fun i wr => ∃ (k : Nat) (v : Value), k ≤ c ∧ i = .int .i64 k ∧ Below W.heap.size W wr ∧ RS wr W.heap.size n (Lk S k) v) (fun i _ => c - (intOf i).toNat)
  case atStart => exact ⟨0, _, Nat.zero_le _, rfl, B0.out, R0.out⟩
  case round =>
    clear B0 R0
    obtain ⟨k, v, hk, rfl, hbel, hR⟩ := hrel
    have HB := hid hbel
    have HR := hid hR
    clear hbel hR
    by_cases hlt : k < c
    · obtain ⟨b, off, ea, lt, hc⟩ := HT.out.below HB.out (Nat.le_refl _) k (by omega)
      subst ea
      have hk2 := HN.out k (by omega)
      have i0 : (k : Int) < (c : Int) := by omega
      have i1 : (k : Int) < (m : Int) := by omega
      have i2 : (0 : Int) ≤ (S k : Int) := by omega
      have i3 : (S k : Int) < (n : Int) := by omega
      have p1 := HR.out.pick hk2
      have l1 := HR.out.lt
      go_wp2_with fail
      refine (mark9_any W.heap.size n (S k) (Lk S k) v _ HR.out hk2 (by have := Lk_len S k; omega)).mono ?_
      rintro e w2 ⟨rfl, v2, hR2, hb2, _⟩
      have HR2 := hid hR2
      have HB2 := hid hb2
      clear hR2 hb2 p1 hc
      go_wp2
      go_roundw
      case rel => exact ⟨k + 1, v2, by omega, by go_num, HB.out.trans HB2.out, HR2.out⟩
      case measure => simp [intOf]; omega
    · have HM : Hid (RS wr W.heap.size n (Lk S c) v) := by
        have e : k = c := by omega
        rw [← e]
        exact HR
      clear HR
      go_wp2_with fail
      refine (count_any W.heap.size n (Lk S c) v _ HM.out).mono ?_
      rintro e w2 ⟨rfl, rfl⟩
      have j1 : (c : Int) ≤ (c2 : Int) := by omega
      have j2 : (0 : Int) ≤ (c : Int) := by omega
      go_wp2_with fail
      refine (distinct_any a2 n c c2 S _ hn (by omega) ((HT.out.below HB.out (Nat.le_refl _)).head hcm) (fun i hi => HN.out i (by omega))).mono ?_
      rintro e w2 ⟨rfl, hb2⟩
      have lc := Lk_len S c
      have HM2 := hid (HM.out.below hb2)
      have HB2 : Hid (Below W.heap.size W w2) := HB.out.trans (hb2.mono HB.out.size)
      clear HM HB hb2
      obtain ⟨hRA, hv, hF⟩ := HM2.out.alloc (.cells (madeCells #[.pointer none] (Lk S c).length) 41)
      have RA := hid hRA
      have HV := hid hv
      have BA : Hid (Below W.heap.size W (w2.alloc (.cells (madeCells #[.pointer none] (Lk S c).length) 41))) := HB2.out.alloc HB2.out.size _
      have MA := hid (World.rowIs_made w2 (.pointer none) (Lk S c).length 41)
      have hmk := run_make_row' (P := Try.prog) 33 41 (.pointer none) 8 Try.underlying33 Try.info41 rfl .i64 .i64 (Lk S c).length (by omega) (by omega)
      obtain ⟨F, eF⟩ : ∃ F, w2.heap.size = F := ⟨_, rfl⟩
      clear hRA hv HM2 HB2
      go_wp2
      rw [eF] at MA HV hF
      go_loopw [12] (fun i w3 => ∃ (k : Nat), k ≤ (Lk S c).length ∧ i = .int .i64 k ∧ Below W.heap.size W w3 ∧ RS w3 W.heap.size n (Lk S c) v ∧ w3.rowIs F 41 (Lk S c).length (snapF W.heap.size (Lk S c) k)) (fun i _ => (Lk S c).length - (intOf i).toNat)
      case atStart => exact ⟨0, Nat.zero_le _, rfl, BA.out, RA.out, MA.out.congr (fun x hx => by simp [snapF])⟩
      case round =>
        clear hmk BA RA MA
        obtain ⟨k3, hk3, rfl, hbel3, hR3, hM3⟩ := hrel
        have HB3 := hid hbel3
        have HR3 := hid hR3
        have HM3 := hid hM3
        have lF := hM3.lt
        clear hbel3 hR3 hM3
        by_cases hlt3 : k3 < (Lk S c).length
        · have d1 := HM3.out.cell hlt3
          have d2 := HM3.out.frozen k3
          have i1 : (k3 : Int) < ((Lk S c).length : Int) := by omega
          have hg : Hid ((Lk S c)[k3]? = some ((Lk S c).getD k3 0)) := by
            show _ = _
            rw [List.getD_eq_getElem?_getD, List.getElem?_eq_getElem hlt3]
            rfl
          go_wp2_with fail
          refine (at_any W.heap.size n k3 _ (Lk S c) v _ HR3.out hg.out).mono ?_
          rintro e w3 ⟨rfl, rfl⟩
          go_wp2
          go_roundw
          case rel => exact ⟨k3 + 1, by omega, by go_num, HB3.out.setCell (by simp; omega) _, HR3.out.grown (grownBy_set _ _ _) hF HV.out, (HM3.out.set k3 _).congr (fun x hx => by
            by_cases e : x = k3
            · subst e
              simp [snapF, List.getElem?_eq_getElem hlt3]
            · have : (x < k3 + 1) ↔ (x < k3) := by omega
              simp [e, snapF, this])⟩
          case measure => simp [intOf]; omega
        · have M4 : Hid (wr.rowIs F 41 (Lk S c).length (fun x => grp W.heap.size ((Lk S c).getD x 0))) := HM3.out.congr (fun x hx => by
            have : x < k3 := by omega
            simp [snapF, this])
          clear HM3
          go_wp2
          go_loopw [13] (fun i w4 => ∃ (k : Nat) (v4 : Value), c ≤ k ∧ k ≤ m ∧ i = .int .i64 k ∧ Below W.heap.size W w4 ∧ RS w4 W.heap.size n (Lk S k) v4 ∧ w4.rowIs F 41 (Lk S c).length (fun x => grp W.heap.size ((Lk S c).getD x 0)) ∧ v4.ownBlock ≠ some F) (fun i _ => m - (intOf i).toNat)
          case atStart => exact ⟨c, v, Nat.le_refl _, hcm, rfl, HB3.out, HR3.out, M4.out, HV.out⟩
          case round =>
            clear M4 HB3 HR3 lF HV
            obtain ⟨k4, v4, hk4, hk4', rfl, hbel4, hR4, hM4, hV4⟩ := hrel
            have HB4 := hid hbel4
            have HR4 := hid hR4
            have HM4 := hid hM4
            have HV4 := hid hV4
            have lF := hM4.lt
            clear hbel4 hR4 hM4 hV4
            by_cases hlt4 : k4 < m
            · obtain ⟨b, off, ea, lt, hc⟩ := HT.out.below HB4.out (Nat.le_refl _) k4 hlt4
              subst ea
              have hn4 := HN.out k4 hlt4
              have i1 : (k4 : Int) < (m : Int) := by omega
              have i2 : (0 : Int) ≤ (S k4 : Int) := by omega
              have i3 : (S k4 : Int) < (n : Int) := by omega
              have p1 := HR4.out.pick hn4
              have l1 := HR4.out.lt
              go_wp2_with fail
              refine (mark9_any W.heap.size n (S k4) (Lk S k4) v4 _ HR4.out hn4 (by have := Lk_len S k4; omega)).mono ?_
              rintro e w5 ⟨rfl, v5, hR5, hb5, hk5⟩
              obtain ⟨hk5a, hk5b⟩ := hk5 F hF lF HV4.out
              have HR5 := hid hR5
              have HB5 := hid hb5
              have HM5 := hid (HM4.out.of_block hk5a)
              have HV5 := hid hk5b
              clear hR5 hb5 p1 hc hk5 hk5a hk5b
              go_wp2
              go_roundw
              case rel => exact ⟨k4 + 1, v5, by omega, by omega, by go_num, HB4.out.trans HB5.out, HR5.out, HM5.out, HV5.out⟩
              case measure => simp [intOf]; omega
            · have HR4m : Hid (RS wr W.heap.size n (Lk S m) v4) := by
                have e : k4 = m := by omega
                rw [← e]
                exact HR4
              clear HR4
              go_wp2
              go_loopw [14] (fun i w6 => ∃ (k : Nat) (v6 : Value), k ≤ m ∧ i = .int .i64 k ∧ Below W.heap.size W w6 ∧ RS w6 W.heap.size n (Lk S m) v6 ∧ w6.rowIs F 41 (Lk S c).length (fun x => grp W.heap.size ((Lk S c).getD x 0)) ∧ v6.ownBlock ≠ some F) (fun i _ => m - (intOf i).toNat)
              case atStart => exact ⟨0, v4, Nat.zero_le _, rfl, HB4.out, HR4m.out, HM4.out, HV4.out⟩
              case round =>
                clear HM4 HB4 HR4m lF HV4
                obtain ⟨k6, v6, hk6, rfl, hbel6, hR6, hM6, hV6⟩ := hrel
                have HB6 := hid hbel6
                have HR6 := hid hR6
                have HM6 := hid hM6
                have HV6 := hid hV6
                have lF := hM6.lt
                clear hbel6 hR6 hM6 hV6
                have lm := Lk_len S m
                by_cases hlt6 : k6 < m
                · obtain ⟨b, off, ea, lt, hc⟩ := HT.out.below HB6.out (Nat.le_refl _) k6 hlt6
                  subst ea
                  have hn6 := HN.out k6 hlt6
                  have i1 : (k6 : Int) < (m : Int) := by omega
                  have i2 : (0 : Int) ≤ (S k6 : Int) := by omega
                  have i3 : (S k6 : Int) < (n : Int) := by omega
                  have p1 := HR6.out.pick hn6
                  have l1 := HR6.out.lt
                  have hsame : addOnce (Lk S m) (S k6) = Lk S m := addOnce_mem ((mem_Lk S m (S k6)).2 ⟨k6, hlt6, rfl⟩)
                  have HA := hid hsame
                  clear hsame
                  go_wp2_with fail
                  refine (mark9_any W.heap.size n (S k6) (Lk S m) v6 _ HR6.out hn6 (by omega)).mono ?_
                  rintro e w7 ⟨rfl, v7, hR7, hb7, hk7⟩
                  rw [HA.out] at hR7
                  obtain ⟨hk7a, hk7b⟩ := hk7 F hF lF HV6.out
                  have HR7 := hid hR7
                  have HB7 := hid hb7
                  have HM7 := hid (HM6.out.of_block hk7a)
                  have HV7 := hid hk7b
                  clear hR7 hb7 p1 hc hk7 hk7a hk7b
                  go_wp2
                  go_roundw
                  case rel => exact ⟨k6 + 1, v7, by omega, by go_num, HB6.out.trans HB7.out, HR7.out, HM7.out, HV7.out⟩
                  case measure => simp [intOf]; omega
                · go_wp2_with fail
                  refine (count_any W.heap.size n (Lk S m) v6 _ HR6.out).mono ?_
                  rintro e w8 ⟨rfl, rfl⟩
                  go_wp2_with fail
                  refine (distinct_any a2 n m c2 S _ hn hm (HT.out.below HB6.out (Nat.le_refl _)) HN.out).mono ?_
                  rintro e w8 ⟨rfl, hb8⟩
                  have HR8 := hid (HR6.out.below hb8)
                  have HB8 : Hid (Below W.heap.size W w8) := HB6.out.trans (hb8.mono HB6.out.size)
                  have HM8 := hid (HM6.out.of_block (hb8.block F lF))
                  clear HR6 HB6 HM6 hb8 lF
                  go_wp2
                  go_loopw [16] (fun i w9 => ∃ (k : Nat), k ≤ (Lk S c).length ∧ i = .int .i64 k ∧ Below W.heap.size W w9 ∧ RS w9 W.heap.size n (Lk S m) v6 ∧ w9.rowIs F 41 (Lk S c).length (fun x => grp W.heap.size ((Lk S c).getD x 0))) (fun i _ => (Lk S c).length - (intOf i).toNat)
                  case atStart => exact ⟨0, Nat.zero_le _, rfl, HB8.out, HR8.out, HM8.out⟩
                  case round =>
                    clear HR8 HB8 HM8
                    obtain ⟨k9, hk9, rfl, hbel9, hR9, hM9⟩ := hrel
                    have HB9 := hid hbel9
                    have HR9 := hid hR9
                    have HM9 := hid hM9
                    have lF := hM9.lt
                    clear hbel9 hR9 hM9
                    by_cases hlt9 : k9 < (Lk S c).length
                    · obtain ⟨g, hg1⟩ : ∃ g, (Lk S c)[k9]? = some g := ⟨_, List.getElem?_eq_getElem hlt9⟩
                      have d1 : wr.cell? ⟨F, k9, none⟩ = some (grp W.heap.size g) := by
                        rw [HM9.out.cell hlt9, List.getD_eq_getElem?_getD, hg1]
                        rfl
                      have HG : Hid ((Lk S m)[k9]? = some g) := (Lk_get S c m k9 hcm hlt9).trans hg1
                      have i1 : (k9 : Int) < ((Lk S c).length : Int) := by omega
                      have hne := neq41
                      clear hg1
                      go_wp2
                      go_quiet ((go_at_call 11; exact Calls.quiet_of_same (at_b _ n _ _ _ v6 _ (HR9.out.drewN _) HG.out)))
                      go_wp2
                      go_roundw
                      case rel => exact ⟨k9 + 1, by omega, by go_num, below_drewN HB9.out _, HR9.out.drewN _, HM9.out⟩
                      case measure => simp [intOf]; omega
                    · go_wp2
                      go_ret
                      exact ⟨rfl, HB9.out⟩
end Go.Proofs.Qxb6615205a
