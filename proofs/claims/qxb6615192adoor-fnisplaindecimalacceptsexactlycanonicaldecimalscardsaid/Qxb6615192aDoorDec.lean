/-
  plainDecimal, isPlainDecimal walked, over the shelf contract of strconv.ParseUint.
-/
import Derived.Test.Qxb6615192aDoorProg
import Derived.Test.Qxb6615192aDoorPlain
import Derived.Test.Qxb6615192aDoorShelf
import Derived.WalkKit
import Derived.WalkSpells
import Derived.WalkLawsBesides
import Derived.Deep.OwnRows
import Derived.Laws.BytesArg
import Derived.Lib.AtoiErrMem
namespace Go.Proofs.Qxb6615192aDoor
open Go.RowKit

theorem hid {p : Prop} (h : p) : Hid p := h

/-- the two sentinels of the library hold error values -/
def Errs (w : World) : Prop := (∃ te pe, w.cell? ⟨0, 0, none⟩ = some (.iface te pe)) ∧ ∃ te pe, w.cell? ⟨1, 0, none⟩ = some (.iface te pe)

theorem Errs.below {w w' : World} (h : Errs w) (hb : Below w.heap.size w w') : Errs w' := by
  obtain ⟨⟨a, b, h0⟩, c, d, h1⟩ := h
  exact ⟨⟨a, b, (hb.cell (p := ⟨0, 0, none⟩) (World.block_lt_of_cell? _ _ h0)).trans h0⟩, c, d, (hb.cell (p := ⟨1, 0, none⟩) (World.block_lt_of_cell? _ _ h1)).trans h1⟩

theorem head_get (s : ByteArray) (h : 0 < s.size) : s.data.toList.head? = some s[0] := by
  cases hl : s.data.toList with
  | nil =>
    have h2 : s.size = 0 := by
      have h3 := congrArg List.length hl
      rw [Array.length_toList] at h3
      exact h3
    omega
  | cons c r =>
    have e : s.data.toList[0]? = some s[0] := by
      rw [Array.getElem?_toList]
      exact Array.getElem?_eq_getElem (xs := s.data) (i := 0) h
    rw [hl] at e
    simpa using e

theorem bytes_below {w w1 : World} {t : Nat} {s : ByteArray} (h : w1 = w ∨ w1 = Lib.bytesWorld w t s) : Below w.heap.size w w1 := by
  rcases h with rfl | rfl
  · exact Below.refl _ _
  · exact Lib.bytesWorld_below _ _ _

/-! ### plainDecimal -/
set_option maxRecDepth 100000 in
set_option maxHeartbeats 1000000 in
theorem plain_any (s : ByteArray) (w : World) (hs : s.size ≤ 1048576) (hE : Errs w) :
    Calls Tryd.prog 10 #[.string s] w fun e w' => e = .returned (.tuple #[.int .u64 (((pd s.data.toList).getD 0 : Nat) : Int), .bool (pd s.data.toList).isSome]) ∧ Below w.heap.size w w' := by
  obtain ⟨⟨te0, pe0, hv0⟩, te1, pe1, hv1⟩ := hE
  have hlen : s.data.toList.length = s.size := by simp
  rcases hp : Lib.parseUintB 64 s.data.toList with u | _ | _
  · have hpos : 0 < s.size := by
      rcases Nat.eq_zero_or_pos s.size with h | h
      · have : s.data.toList = [] := List.eq_nil_of_length_eq_zero (by omega)
        rw [this] at hp
        simp [Lib.parseUintB] at hp
      · exact h
    have hpos' : (0 : Int) < (s.size : Int) := by omega
    have hcon := Any.strconv_ParseUint_10_at64_ok Tryd.laysPu14 s (by omega) u hp w
    have HC := hid hcon
    have hhd := head_get s hpos
    by_cases hz : s[0] = 48
    · by_cases h1 : 1 < s.size
      · have hpd : pd s.data.toList = none := by
          unfold pd
          rw [hp]
          simp only
          rw [if_pos ⟨by rw [hhd, hz], by omega⟩]
        rw [hpd]
        have t1 : ((s[0].toNat : Int) == 48) = true := by simp [hz]
        have t2 : (1 : Int) < (s.size : Int) := by omega
        clear hcon hpd hhd hz hp hlen
        go_enter Tryd.func10, Tryd.ntmps10
        go_wp2_with fail
        refine HC.out.mono ?_
        rintro e w1 ⟨rfl, hw⟩
        have HW := hid (bytes_below hw)
        clear hw
        go_wp2
        go_ret2
        exact ⟨rfl, HW.out⟩
      · have hpd : pd s.data.toList = some u := by
          unfold pd
          rw [hp]
          simp only
          rw [if_neg (by omega)]
        rw [hpd]
        have t1 : ((s[0].toNat : Int) == 48) = true := by simp [hz]
        have t2 : ¬ (1 : Int) < (s.size : Int) := by omega
        clear hcon hpd hhd hz hp hlen
        go_enter Tryd.func10, Tryd.ntmps10
        go_wp2_with fail
        refine HC.out.mono ?_
        rintro e w1 ⟨rfl, hw⟩
        have HW := hid (bytes_below hw)
        clear hw
        go_wp2
        go_ret2
        exact ⟨rfl, HW.out⟩
    · have hpd : pd s.data.toList = some u := by
        unfold pd
        rw [hp]
        simp only
        rw [if_neg (by rw [hhd]; simp [hz])]
      rw [hpd]
      have t1 : ((s[0].toNat : Int) == 48) = false := by
        rw [beq_eq_false_iff_ne]
        intro e
        exact hz ((toNat48 _).1 (by omega))
      clear hcon hpd hhd hz hp hlen
      go_enter Tryd.func10, Tryd.ntmps10
      go_wp2_with fail
      refine HC.out.mono ?_
      rintro e w1 ⟨rfl, hw⟩
      have HW := hid (bytes_below hw)
      clear hw
      go_wp2
      go_ret2
      exact ⟨rfl, HW.out⟩
  · have hpd : pd s.data.toList = none := by unfold pd; rw [hp]
    rw [hpd]
    have HC := hid (Any.strconv_ParseUint_10_at64_syntax Tryd.laysPu14 s (by omega) hp (.iface te0 pe0) w hv0 (.inr ⟨te0, pe0, rfl⟩))
    clear hpd hp hlen
    go_enter Tryd.func10, Tryd.ntmps10
    go_wp2_with fail
    refine HC.out.mono ?_
    rintro e w1 ⟨N, rfl, _, _, hw⟩
    have HW := hid hw
    clear hw
    go_wp2
    go_ret2
    exact ⟨rfl, HW.out⟩
  · have hpd : pd s.data.toList = none := by unfold pd; rw [hp]
    rw [hpd]
    have HC := hid (Any.strconv_ParseUint_10_at64_range Tryd.laysPu14 s (by omega) hp (.iface te1 pe1) w hv1 (.inr ⟨te1, pe1, rfl⟩))
    clear hpd hp hlen
    go_enter Tryd.func10, Tryd.ntmps10
    go_wp2_with fail
    refine HC.out.mono ?_
    rintro e w1 ⟨N, rfl, _, _, hw⟩
    have HW := hid hw
    clear hw
    go_wp2
    go_ret2
    exact ⟨rfl, HW.out⟩

theorem zzplain_any (s : ByteArray) (w : World) (hs : s.size ≤ 1048576) (hE : Errs w) :
    Calls Tryd.prog 6 #[.string s] w fun e w' => e = .returned (.tuple #[.int .u64 (((pd s.data.toList).getD 0 : Nat) : Int), .bool (pd s.data.toList).isSome]) ∧ Below w.heap.size w w' := by
  have H := hid (plain_any s w hs hE)
  clear hE
  go_enter Tryd.func6, Tryd.ntmps6
  go_wp2_with fail
  refine H.out.mono ?_
  rintro e w1 ⟨rfl, hw⟩
  have HW := hid hw
  clear hw
  go_wp2
  go_ret2
  exact ⟨rfl, HW.out⟩

theorem is_any (s : ByteArray) (w : World) (hs : s.size ≤ 1048576) (hE : Errs w) :
    Calls Tryd.prog 11 #[.string s] w fun e w' => e = .returned (.bool (pd s.data.toList).isSome) ∧ Below w.heap.size w w' := by
  have H := hid (plain_any s w hs hE)
  clear hE
  go_enter Tryd.func11, Tryd.ntmps11
  go_wp2_with fail
  refine H.out.mono ?_
  rintro e w1 ⟨rfl, hw⟩
  have HW := hid hw
  clear hw
  go_wp2
  go_ret
  exact ⟨rfl, HW.out⟩

theorem zzis_any (s : ByteArray) (w : World) (hs : s.size ≤ 1048576) (hE : Errs w) :
    Calls Tryd.prog 8 #[.string s] w fun e w' => e = .returned (.bool (pd s.data.toList).isSome) ∧ Below w.heap.size w w' := by
  have H := hid (is_any s w hs hE)
  clear hE
  go_enter Tryd.func8, Tryd.ntmps8
  go_wp2_with fail
  refine H.out.mono ?_
  rintro e w1 ⟨rfl, hw⟩
  have HW := hid hw
  clear hw
  go_wp2
  go_ret
  exact ⟨rfl, HW.out⟩
end Go.Proofs.Qxb6615192aDoor
