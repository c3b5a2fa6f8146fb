/-
  THE LAW FnIsPlainDecimalAcceptsExactlyCanonicalDecimals, out of its callees contracts.
-/
import Derived.Test.Qxb6615192aDoorUtoa
namespace Go.Proofs.Qxb6615192aDoor
open Go.RowKit

theorem zzb5_yes (s : ByteArray) (w : World) (hn : s.size ≤ 1048576) : Calls Tryd.prog 5 #[.string s] w fun e w' => e = .returned (.bool true) ∧ w = w' := by
  go_enter Tryd.func5, Tryd.ntmps5
  go_wp2
  go_ret
  exact ⟨rfl, rfl⟩
theorem zzb5_no (s : ByteArray) (w : World) (hn : ¬ s.size ≤ 1048576) : Calls Tryd.prog 5 #[.string s] w fun e w' => e = .returned (.bool false) ∧ w = w' := by
  go_enter Tryd.func5, Tryd.ntmps5
  go_wp2
  go_ret
  exact ⟨rfl, rfl⟩

theorem pd_le (l : List UInt8) : (pd l).getD 0 ≤ 18446744073709551615 := by
  cases h : pd l with
  | none => simp
  | some u => exact (pd_canon l u h).2

/-- the text that utoa writes is the text read, exactly where that was accepted -/
theorem same_iff (t s : ByteArray) (ht : Canon t.data.toList ((pd s.data.toList).getD 0)) : (t.toList == s.toList) = (pd s.data.toList).isSome := by
  rw [ByteArray.toList_eq, ByteArray.toList_eq]
  cases h : pd s.data.toList with
  | some u =>
    rw [h] at ht
    have := canon_one ht (pd_canon _ _ h).1
    simp [this]
  | none =>
    rw [h] at ht
    have h2 := canon_pd _ _ ht (by simp)
    simp only [Option.isSome_none]
    rw [beq_eq_false_iff_ne]
    intro e
    rw [e, h] at h2
    cases h2

set_option maxHeartbeats 1000000 in
theorem law3 (s : ByteArray) (W : World) (hs : s.size ≤ 1048576) (hE : Errs W) :
    Calls Tryd.prog 3 #[.string s] W fun e w' => e = .returned (.bool true) ∧ Below W.heap.size W w' := by
  have HE := hid hE
  have hle := pd_le s.data.toList
  have hd : decide ((1048576 : Int) < (s.size : Int)) = false := by simp; omega
  clear hE
  go_enter Tryd.func3, Tryd.ntmps3
  go_wp2_with fail
  refine (zzb5_yes s _ hs).mono ?_
  rintro e w1 ⟨rfl, rfl⟩
  go_wp2_with fail
  refine (zzplain_any s _ hs HE.out).mono ?_
  rintro e w1 ⟨rfl, b1⟩
  have E1 := hid (HE.out.below b1)
  have B1 := hid b1
  clear b1 HE
  go_wp2_with fail
  refine (utoa_any _ _ hle).mono ?_
  rintro e w2 ⟨⟨t, rfl, hc, hts⟩, b2⟩
  have E2 := hid (E1.out.below b2)
  have B2 := hid (B1.out.trans (b2.mono B1.out.size))
  have HS := hid (same_iff t s hc)
  have HP := hid (canon_pd _ _ hc hle)
  clear hc b2 B1 E1
  go_wp2_with fail
  refine (zzis_any s _ hs E2.out).mono ?_
  rintro e w3 ⟨rfl, b3⟩
  have E3 := hid (E2.out.below b3)
  have B3 := hid (B2.out.trans (b3.mono B2.out.size))
  clear b3 B2 E2
  have hsame : ((pd s.data.toList).isSome == (pd s.data.toList).isSome) = true := by simp
  go_wp2_with fail
  refine (zzis_any t _ (by omega) E3.out).mono ?_
  rintro e w4 ⟨rfl, b4⟩
  rw [HP.out]
  have B4 := hid (B3.out.trans (b4.mono B3.out.size))
  have hst := HS.out
  clear b4 B3 E3 HS HP
  go_wp2
  go_ret
  exact ⟨by simp, B4.out⟩

theorem law3_any (s : ByteArray) (W : World) (hE : Errs W) :
    Calls Tryd.prog 3 #[.string s] W fun e w' => e = .returned (.bool true) ∧ Below W.heap.size W w' := by
  by_cases hs : s.size ≤ 1048576
  · exact law3 s W hs hE
  · go_enter Tryd.func3, Tryd.ntmps3
    go_wp2_with (go_at_call 5; refine (zzb5_no s _ hs).mono ?_; rintro e w1 ⟨rfl, rfl⟩)
    go_ret
    exact ⟨rfl, Below.refl _ _⟩
end Go.Proofs.Qxb6615192aDoor
