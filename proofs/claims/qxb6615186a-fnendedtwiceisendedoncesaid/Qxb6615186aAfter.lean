/-
  placesAfterEnded walked.
-/
import Derived.Test.Qxb6615186aEnded
import Derived.Laws.StructEq
namespace Go.Proofs.Qxb6615186a
open Go.RowKit

/-! ### placesAfterEnded -/
/-- what the law's model says of place k -/
def wantAt (q : Nat → Pl) (i j k : Nat) : Pl := if (k = i ∨ k = j) ∧ pend (q k) = true then { q k with un := true } else q k

theorem guard46 : Try.prog.eqGuardType Try.prog.depth 46 = false := by kernel_rfl

theorem run_neq_same (x : Pl) (w : World) : (binOp .neq 46 (.agg #[.int .i64 x.ch, .bool x.kn, .bool x.un, .int .i64 x.fi, .bool x.pl, .bool x.cb]) (.agg #[.int .i64 x.ch, .bool x.kn, .bool x.un, .int .i64 x.fi, .bool x.pl, .bool x.cb])).run Try.prog w = .ok (.bool false) w := by
  have hst : Try.prog.stoodInHeld 46 = false := by kernel_rfl
  simp [go_sem, run_neq_struct, run_equalIn_agg, hst]

set_option maxHeartbeats 2000000 in
set_option maxRecDepth 100000 in
theorem after_any (b off n cap gg : Nat) (q q' : Nat → Pl) (i j : Nat) (w : World) (hn : n ≤ 32768) (hb : b < w.heap.size) (hg : gg < w.heap.size) (hq : Pls w b off n q) (hq' : Pls w gg 0 n q') (hw : ∀ k, k < n → q' k = wantAt q i j k) :
    Calls Try.prog 21 #[.slice (some ⟨b, off, none⟩) n cap, .slice (some ⟨gg, 0, none⟩) n n, .int .i64 i, .int .i64 j] w fun e w' => e = .returned (.bool true) ∧ Below w.heap.size w w' := by
  have HQ := hid hq
  have HQ' := hid hq'
  have HW := hid hw
  have hst : Try.prog.stoodInHeld 46 = false := by kernel_rfl
  have hgd := guard46
  clear hq hq' hw
  go_enter Try.func21, Try.ntmps21
  go_wp2
  go_loopw [9] (fun t wr => ∃ k : Nat, k ≤ n ∧ t = .int .i64 k ∧ Below w.heap.size w wr) (fun t _ => n - (intOf t).toNat)
  case atStart => exact ⟨0, Nat.zero_le _, rfl, Below.refl _ _⟩
  case round =>
    obtain ⟨k, hk, rfl, hbel⟩ := hrel
    by_cases hlt : k < n
    · obtain ⟨c0, c1, c2, c3, c4, c5⟩ := (HQ.out.below hbel hb).at hlt
      obtain ⟨d0, d1, d2, d3, d4, d5⟩ := (HQ'.out.below hbel hg).at hlt
      rw [Nat.zero_add] at d0 d1 d2 d3 d4 d5
      have hwk := HW.out k hlt
      have l1 : b < wr.heap.size := Nat.lt_of_lt_of_le hb hbel.size
      have l2 : gg < wr.heap.size := Nat.lt_of_lt_of_le hg hbel.size
      have ci : (0 : Int) ≤ (k : Int) := by omega
      have cn : (k : Int) < (n : Int) := by omega
      by_cases e1 : k = i
      · have t1 : ((k : Int) == (i : Int)) = true := by simp [e1]
        have E1 := hid e1
        clear e1
        cases hkn : (q k).kn with
        | true =>
          have hy : q' k = q k := by rw [hwk, wantAt, if_neg (by simp [pend, hkn])]
          rw [hy] at d0 d1 d2 d3 d4 d5
          rw [hkn] at c1 d1
          clear hwk hy hkn
          go_wp2
          go_quiet (fail)
          go_wp2
          go_roundw
          case rel => exact ⟨k + 1, by omega, by go_num, below_drewN (hbel.alloc hbel.size _) _⟩
          case measure => simp [intOf]; omega
        | false =>
          cases hun : (q k).un with
          | true =>
            have hy : q' k = q k := by rw [hwk, wantAt, if_neg (by simp [pend, hun])]
            rw [hy] at d0 d1 d2 d3 d4 d5
            rw [hkn] at c1 d1
            rw [hun] at c2 d2
            clear hwk hy hkn hun
            go_wp2
            go_quiet (fail)
            go_wp2
            go_roundw
            case rel => exact ⟨k + 1, by omega, by go_num, below_drewN (hbel.alloc hbel.size _) _⟩
            case measure => simp [intOf]; omega
          | false =>
            have hy : q' k = ⟨(q k).ch, false, true, (q k).fi, (q k).pl, (q k).cb⟩ := by rw [hwk, wantAt, if_pos ⟨.inl E1.out, by simp [pend, hkn, hun]⟩]; simp [hkn]
            rw [hy] at d0 d1 d2 d3 d4 d5
            rw [hkn] at c1
            rw [hun] at c2
            clear hwk hy hkn hun
            go_wp2
            go_quiet (fail)
            go_wp2
            go_roundw
            case rel => exact ⟨k + 1, by omega, by go_num, below_drewN (hbel.alloc hbel.size _) _⟩
            case measure => simp [intOf]; omega
      · have t1 : ((k : Int) == (i : Int)) = false := by rw [beq_eq_false_iff_ne]; omega
        by_cases e2 : k = j
        · have t2 : ((k : Int) == (j : Int)) = true := by simp [e2]
          have E2 := hid e2
          clear e2 e1
          cases hkn : (q k).kn with
          | true =>
            have hy : q' k = q k := by rw [hwk, wantAt, if_neg (by simp [pend, hkn])]
            rw [hy] at d0 d1 d2 d3 d4 d5
            rw [hkn] at c1 d1
            clear hwk hy hkn
            go_wp2
            go_quiet (fail)
            go_wp2
            go_roundw
            case rel => exact ⟨k + 1, by omega, by go_num, below_drewN (hbel.alloc hbel.size _) _⟩
            case measure => simp [intOf]; omega
          | false =>
            cases hun : (q k).un with
            | true =>
              have hy : q' k = q k := by rw [hwk, wantAt, if_neg (by simp [pend, hun])]
              rw [hy] at d0 d1 d2 d3 d4 d5
              rw [hkn] at c1 d1
              rw [hun] at c2 d2
              clear hwk hy hkn hun
              go_wp2
              go_quiet (fail)
              go_wp2
              go_roundw
              case rel => exact ⟨k + 1, by omega, by go_num, below_drewN (hbel.alloc hbel.size _) _⟩
              case measure => simp [intOf]; omega
            | false =>
              have hy : q' k = ⟨(q k).ch, false, true, (q k).fi, (q k).pl, (q k).cb⟩ := by rw [hwk, wantAt, if_pos ⟨.inr E2.out, by simp [pend, hkn, hun]⟩]; simp [hkn]
              rw [hy] at d0 d1 d2 d3 d4 d5
              rw [hkn] at c1
              rw [hun] at c2
              clear hwk hy hkn hun
              go_wp2
              go_quiet (fail)
              go_wp2
              go_roundw
              case rel => exact ⟨k + 1, by omega, by go_num, below_drewN (hbel.alloc hbel.size _) _⟩
              case measure => simp [intOf]; omega
        · have t2 : ((k : Int) == (j : Int)) = false := by rw [beq_eq_false_iff_ne]; omega
          have hy : q' k = q k := by rw [hwk, wantAt, if_neg (by simp [e1, e2])]
          rw [hy] at d0 d1 d2 d3 d4 d5
          clear hwk hy e1 e2
          go_wp2
          go_quiet (fail)
          go_wp2
          go_roundw
          case rel => exact ⟨k + 1, by omega, by go_num, below_drewN (hbel.alloc hbel.size _) _⟩
          case measure => simp [intOf]; omega
    · have e : k = n := by omega
      subst e
      go_wp2
      go_ret
      exact ⟨rfl, hbel⟩
end Go.Proofs.Qxb6615186a
