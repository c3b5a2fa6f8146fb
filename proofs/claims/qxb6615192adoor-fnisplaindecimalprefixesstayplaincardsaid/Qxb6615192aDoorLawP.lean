/-
  THE LAW FnIsPlainDecimalPrefixesStayPlain, out of its callees contracts.
-/
import Derived.Test.Qxb6615192aDoorUtoa
import Derived.Laws.Bits64
namespace Go.Proofs.Qxb6615192aDoor
open Go.RowKit

theorem zzb9_yes (s : ByteArray) (p : Int) (w : World) (hn : s.size ≤ 1048576) : Calls Tryd.prog 9 #[.string s, .int .i64 p] w fun e w' => e = .returned (.bool true) ∧ w = w' := by
  go_enter Tryd.func9, Tryd.ntmps9
  go_wp2
  go_ret
  exact ⟨rfl, rfl⟩
theorem zzb9_no (s : ByteArray) (p : Int) (w : World) (hn : ¬ s.size ≤ 1048576) : Calls Tryd.prog 9 #[.string s, .int .i64 p] w fun e w' => e = .returned (.bool false) ∧ w = w' := by
  go_enter Tryd.func9, Tryd.ntmps9
  go_wp2
  go_ret
  exact ⟨rfl, rfl⟩

theorem ext_take (s : ByteArray) (p : Nat) : (s.extract 0 p).data.toList = s.data.toList.take p := by
  simp

theorem ext_one (s : ByteArray) (h : 0 < s.size) : (s.extract 0 1).data.toList = [s[0]] := by
  rw [ext_take]
  have := head_get s h
  cases hl : s.data.toList with
  | nil => rw [hl] at this; simp at this
  | cons c r => rw [hl] at this; simp at this; simp [this]

theorem ext_size (s : ByteArray) (p : Nat) (h : p ≤ s.size) : (s.extract 0 p).size = p := by
  simp
  omega

/-- the head of an accepted text -/
theorem pd_take (s : ByteArray) (u p : Nat) (h : pd s.data.toList = some u) (h1 : 1 ≤ p) (hp : p ≤ s.size) : pd (s.extract 0 p).data.toList = some (u / 10 ^ (s.size - p)) := by
  obtain ⟨hc, hu⟩ := pd_canon _ _ h
  have hl : s.data.toList.length = s.size := by simp
  have := canon_take hc p h1 (by omega)
  rw [hl, ← ext_take] at this
  exact canon_pd _ _ this (Nat.le_trans (Nat.div_le_self _ _) hu)

theorem wrap_div (u D : Nat) (h : u ≤ 18446744073709551615) : IntKind.u64.wrap ((u : Int) / (D : Int)) = ((u / D : Nat) : Int) := by
  have h2 : u / D ≤ u := Nat.div_le_self _ _
  rw [IntKind.wrap_u64, ← Int.natCast_ediv]
  generalize u / D = q at *
  omega

set_option maxHeartbeats 2000000 in
set_option maxRecDepth 100000 in
/-- the road behind 'first': 'head' is true -/
theorem law4 (s : ByteArray) (P : Nat) (W : World) (hs : s.size ≤ 1048576) (h1 : 1 ≤ P) (h2 : P ≤ s.size) (hE : Errs W) :
    Calls Tryd.prog 4 #[.string s, .int .i64 P] W fun e w' => e = .returned (.bool true) ∧ Below W.heap.size W w' := by
  have HE := hid hE
  have hpos : 0 < s.size := by omega
  have hpos' : (0 : Int) < (s.size : Int) := by omega
  have H1 := hid (pd_one s[0])
  have X1 := hid (ext_one s hpos)
  have hz1 : (s.extract 0 1).size = 1 := ext_size s 1 (by omega)
  have hd : decide ((1048576 : Int) < (s.size : Int)) = false := by simp; omega
  have hd1 : decide ((P : Int) < 1) = false := by simp; omega
  have hd2 : decide ((s.size : Int) < (P : Int)) = false := by simp; omega
  clear hE
  have hone : (1 : Int) ≤ (s.size : Int) := by omega
  have hPs : (P : Int) ≤ (s.size : Int) := by omega
  have hways : ((48 : Int) ≤ (s[0].toNat : Int) ∧ decide ((48 : Int) ≤ (s[0].toNat : Int)) = true ∧ decide ((s[0].toNat : Int) ≤ 57) = true ∧ (pd [s[0]]).isSome = true) ∨ ((48 : Int) ≤ (s[0].toNat : Int) ∧ decide ((48 : Int) ≤ (s[0].toNat : Int)) = true ∧ decide ((s[0].toNat : Int) ≤ 57) = false ∧ (pd [s[0]]).isSome = false) ∨ (¬ (48 : Int) ≤ (s[0].toNat : Int) ∧ decide ((48 : Int) ≤ (s[0].toNat : Int)) = false ∧ True ∧ (pd [s[0]]).isSome = false) := by
    rw [H1.out]
    by_cases a : (48 : Int) ≤ (s[0].toNat : Int)
    · by_cases b : (s[0].toNat : Int) ≤ 57
      · exact .inl ⟨a, by simp; omega, by simp; omega, by simp; omega⟩
      · exact .inr (.inl ⟨a, by simp; omega, by simp; omega, by simp; omega⟩)
    · exact .inr (.inr ⟨a, by simp; omega, trivial, by simp; omega⟩)
  have HY := hid hways
  clear hways H1
  go_enter Tryd.func4, Tryd.ntmps4
  go_wp2_with fail
  refine (zzb9_yes s _ _ hs).mono ?_
  rintro e w1 ⟨rfl, rfl⟩
  rcases HY.out with ⟨y1, y0, y2, y3⟩ | ⟨y1, y0, y2, y3⟩ | ⟨y1, y0, y2, y3⟩
  all_goals
    have Y3 := hid y3
    clear y3
    go_wp2_with fail
    refine (zzis_any (s.extract 0 1) _ (by omega) HE.out).mono ?_
    rintro e w1 ⟨rfl, b1⟩
    rw [X1.out, Y3.out]
    have E1 := hid (HE.out.below b1)
    have B1 := hid b1
    clear b1 HE HY X1 Y3
    go_wp2_with fail
    refine (zzplain_any s _ hs E1.out).mono ?_
    rintro e w2 ⟨rfl, b2⟩
    have E2 := hid (E1.out.below b2)
    have B2 := hid (B1.out.trans (b2.mono B1.out.size))
    clear b2 B1 E1
    cases hpd : pd s.data.toList with
    | none =>
      have HD := hid hpd
      clear hpd
      simp only [Option.getD_none, Option.isSome_none]
      go_wp2_with fail
      refine (zzis_any s _ hs E2.out).mono ?_
      rintro e w3 ⟨rfl, b3⟩
      rw [HD.out]
      have B3 := hid (B2.out.trans (b3.mono B2.out.size))
      clear b3
      go_wp2
      go_ret
      exact ⟨rfl, B3.out⟩
    | some u =>
      have HD := hid hpd
      clear hpd
      simp only [Option.getD_some, Option.isSome_some]
      by_cases h20 : s.size ≤ 20
      case neg =>
        go_wp2_with fail
        refine (zzis_any s _ hs E2.out).mono ?_
        rintro e w3 ⟨rfl, b3⟩
        rw [HD.out]
        have B3 := hid (B2.out.trans (b3.mono B2.out.size))
        clear b3
        go_wp2
        go_ret
        exact ⟨rfl, B3.out⟩
      have hd20 : decide ((20 : Int) < (s.size : Int)) = false := by simp; omega
      have hzP : (s.extract 0 P).size = P := ext_size s P h2
      have HT := hid (pd_take s u P HD.out h1 h2)
      have hu : u ≤ 18446744073709551615 := (pd_canon _ _ HD.out).2
      go_wp2_with fail
      refine (zzplain_any (s.extract 0 P) _ (by omega) E2.out).mono ?_
      rintro e w3 ⟨rfl, b3⟩
      rw [HT.out]
      simp only [Option.getD_some, Option.isSome_some]
      generalize hM : u / 10 ^ (s.size - P) = M
      have HM := hid hM
      clear hM
      have E3 := hid (E2.out.below b3)
      have B3 := hid (B2.out.trans (b3.mono B2.out.size))
      clear b3 B2 E2
      go_wp2
      go_loop [11, 12] (fun a b => ∃ k D : Nat, k ≤ s.size - P ∧ a = .int .u64 D ∧ b = .int .i64 k ∧ Hid (D = 10 ^ k)) (fun _ b => s.size - (intOf b).toNat)
      case atStart => exact ⟨0, 1, Nat.zero_le _, rfl, rfl, hid rfl⟩
      case round =>
        obtain ⟨k, D, hk, rfl, rfl, HDk⟩ := hrel
        by_cases hlt : k < s.size - P
        · have hD18 : D ≤ 1000000000000000000 := by
            rw [HDk.out]
            exact Nat.le_trans (Nat.pow_le_pow_right (by omega) (show k ≤ 18 by omega)) (by decide)
          go_wp2
          go_round
          case rel => exact ⟨k + 1, D * 10, by omega, by go_num, by go_num, hid (by rw [HDk.out, Nat.pow_succ])⟩
          case measure => simp [intOf]; omega
        · have e : k = s.size - P := by omega
          have hD0 : D ≠ 0 := by
            rw [HDk.out]
            exact Nat.ne_of_gt (Nat.pow_pos (by omega))
          have hq : ((M : Int) == IntKind.u64.wrap ((u : Int) / (D : Int))) = true := by
            have h1 := HM.out
            rw [← e, ← HDk.out] at h1
            rw [wrap_div u D hu, ← h1]
            simp
          have HQ := hid hq
          have hDi : ¬ (D : Int) = 0 := by omega
          clear HM HDk hq
          go_wp2_with fail
          refine (zzis_any s _ hs E3.out).mono ?_
          rintro e w4 ⟨rfl, b4⟩
          rw [HD.out]
          simp only [Option.isSome_some]
          have E4 := hid (E3.out.below b4)
          have B4 := hid (B3.out.trans (b4.mono B3.out.size))
          clear b4 B3 E3
          go_wp2_with fail
          refine (zzis_any (s.extract 0 P) _ (by omega) E4.out).mono ?_
          rintro e w5 ⟨rfl, b5⟩
          rw [HT.out]
          simp only [Option.isSome_some]
          have B5 := hid (B4.out.trans (b5.mono B4.out.size))
          clear b5 B4 E4
          go_wp2
          go_ret
          exact ⟨congrArg (fun b => Ending.returned (.bool b)) HQ.out, B5.out⟩

theorem law4_huge (s : ByteArray) (p : Int) (W : World) (hs : ¬ s.size ≤ 1048576) :
    Calls Tryd.prog 4 #[.string s, .int .i64 p] W fun e w' => e = .returned (.bool true) ∧ Below W.heap.size W w' := by
  go_enter Tryd.func4, Tryd.ntmps4
  go_wp2_with (go_at_call 9; refine (zzb9_no s _ _ hs).mono ?_; rintro e w1 ⟨rfl, rfl⟩)
  go_ret
  exact ⟨rfl, Below.refl _ _⟩

theorem law4_out (s : ByteArray) (p : Int) (W : World) (hs : s.size ≤ 1048576) (h : p < 1 ∨ (s.size : Int) < p) :
    Calls Tryd.prog 4 #[.string s, .int .i64 p] W fun e w' => e = .returned (.bool true) ∧ Below W.heap.size W w' := by
  have hh : p < 1 ∨ (1 ≤ p ∧ (s.size : Int) < p) := by omega
  clear h
  rcases hh with h1 | ⟨h1, h2⟩
  all_goals
    go_enter Tryd.func4, Tryd.ntmps4
    go_wp2_with (go_at_call 9; refine (zzb9_yes s _ _ hs).mono ?_; rintro e w1 ⟨rfl, rfl⟩)
    go_ret
    exact ⟨rfl, Below.refl _ _⟩

theorem law4_any (s : ByteArray) (p : Int) (W : World) (hE : Errs W) :
    Calls Tryd.prog 4 #[.string s, .int .i64 p] W fun e w' => e = .returned (.bool true) ∧ Below W.heap.size W w' := by
  by_cases hs : s.size ≤ 1048576
  · by_cases hp : p < 1 ∨ (s.size : Int) < p
    · exact law4_out s p W hs hp
    · obtain ⟨P, rfl⟩ := Int.eq_ofNat_of_zero_le (show 0 ≤ p by omega)
      exact law4 s P W hs (by omega) (by omega) hE
  · exact law4_huge s p W hs
end Go.Proofs.Qxb6615192aDoor
