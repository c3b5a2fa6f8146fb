/-
  zzBytes, routesTooBig, scriptInRange walked.
-/
import Derived.Test.Qxb6615205aProg
import Derived.Test.Qxb6615205aPlain
import Derived.WalkKit
import Derived.WalkSpells
import Derived.WalkLawsBesides
import Derived.Deep.OwnRows
import Derived.Deep.AppendLies
namespace Go.Proofs.Qxb6615205a
open Go.RowKit

theorem hid {p : Prop} (h : p) : Hid p := h

/-- WHAT IS KNOWN OF A SLICE OF STRINGS THAT CAME IN -/
def Strs (w : World) (a : Option Addr) (n : Nat) (ss : Nat → ByteArray) : Prop :=
  ∀ i, i < n → ∃ b off, a = some ⟨b, off, none⟩ ∧ b < w.heap.size ∧ w.cell? ⟨b, off + i, none⟩ = some (.string (ss i))
/-- .. OF A SLICE OF INTS -/
def Ints (w : World) (a : Option Addr) (n : Nat) (zs : Nat → Int) : Prop :=
  ∀ i, i < n → ∃ b off, a = some ⟨b, off, none⟩ ∧ b < w.heap.size ∧ w.cell? ⟨b, off + i, none⟩ = some (.int .i64 (zs i))

theorem Strs.below {w w' : World} {a : Option Addr} {n : Nat} {ss : Nat → ByteArray} (h : Strs w a n ss) {B : Nat} (hb : Below B w w') (hB : w.heap.size ≤ B) : Strs w' a n ss := fun i hi => by
  obtain ⟨b, off, e, lt, hc⟩ := h i hi
  exact ⟨b, off, e, Nat.lt_of_lt_of_le lt hb.size, (hb.cell (p := ⟨b, off + i, none⟩) (by simp; omega)).trans hc⟩
theorem Ints.below {w w' : World} {a : Option Addr} {n : Nat} {zs : Nat → Int} (h : Ints w a n zs) {B : Nat} (hb : Below B w w') (hB : w.heap.size ≤ B) : Ints w' a n zs := fun i hi => by
  obtain ⟨b, off, e, lt, hc⟩ := h i hi
  exact ⟨b, off, e, Nat.lt_of_lt_of_le lt hb.size, (hb.cell (p := ⟨b, off + i, none⟩) (by simp; omega)).trans hc⟩

/-- what routesTooBig answers -/
def BigSaid (e : Ending) (n m : Nat) : Prop := e = .returned (.bool true) ∨ (e = .returned (.bool false) ∧ n ≤ 65536 ∧ m ≤ 65536)
/-- what zzBytes answers -/
def FewSaid (e : Ending) (n : Nat) (s : Nat → ByteArray) : Prop := e = .returned (.bool false) ∨ (e = .returned (.bool true) ∧ ∀ i, i < n → (s i).size ≤ 1048576)
/-- what scriptInRange answers -/
def RangeSaid (e : Ending) (n m : Nat) (z : Nat → Int) : Prop := e = .returned (.bool false) ∨ (e = .returned (.bool true) ∧ ∀ i, i < m → 0 ≤ z i ∧ z i < (n : Int))

/-! ### routesTooBig: some bool; if false, few -/
set_option maxHeartbeats 1000000 in
theorem big_any (a1 a2 : Option Addr) (n c1 m c2 : Nat) (s : Nat → ByteArray) (w : World) (hs : Strs w a1 n s) (hz : ∀ i, i < n → (s i).size ≤ 1048576) :
    Calls Try.prog 6 #[.slice a1 n c1, .slice a2 m c2] w fun e w' => BigSaid e n m ∧ w = w' := by
  have HS := hid hs
  have HZ := hid hz
  clear hs hz
  by_cases hn : n ≤ 65536
  · by_cases hm : m ≤ 65536
    · by_cases ht : 16 * n + 8 * m ≤ 1048576
      · go_enter Try.func6, Try.ntmps6
        go_wp2
        go_loop [5, 6] (fun t i => ∃ (k : Nat) (z : Int), k ≤ n ∧ i = .int .i64 k ∧ t = .int .i64 z ∧ 0 ≤ z ∧ z ≤ 1048576) (fun _ i => n - (intOf i).toNat)
        case atStart => exact ⟨0, _, Nat.zero_le _, rfl, rfl, by omega, by omega⟩
        case round =>
          obtain ⟨k, z, hk, rfl, rfl, z0, z1⟩ := hrel
          by_cases hlt : k < n
          · obtain ⟨b, off, ea, lt, hc⟩ := HS.out k hlt
            subst ea
            have hsz := HZ.out k hlt
            by_cases hl : z + (s k).size ≤ 1048576
            · go_wp2
              go_round
              case rel => exact ⟨k + 1, _, by omega, by go_num, rfl, by omega, by omega⟩
              case measure => simp [intOf]; omega
            · go_wp2
              go_ret
              exact ⟨.inl rfl, rfl⟩
          · go_wp2
            go_ret
            exact ⟨.inr ⟨rfl, hn, hm⟩, rfl⟩
      · go_enter Try.func6, Try.ntmps6
        go_wp2
        go_ret
        exact ⟨.inl rfl, rfl⟩
    · go_enter Try.func6, Try.ntmps6
      go_wp2
      go_ret
      exact ⟨.inl rfl, rfl⟩
  · go_enter Try.func6, Try.ntmps6
    go_wp2
    go_ret
    exact ⟨.inl rfl, rfl⟩

/-! ### zzBytes -/
set_option maxHeartbeats 2000000 in
theorem zzb5_any (a1 a2 : Option Addr) (n c1 m c2 : Nat) (s : Nat → ByteArray) (w : World) (hs : Strs w a1 n s) :
    Calls Try.prog 5 #[.slice a1 n c1, .slice a2 m c2] w fun e w' => FewSaid e n s ∧ w = w' := by
  have HS := hid hs
  clear hs
  by_cases hn : n ≤ 1048576
  · go_enter Try.func5, Try.ntmps5
    go_wp2
    go_loop [5, 6] (fun t i => ∃ (k : Nat) (z : Int), k ≤ n ∧ i = .int .i64 k ∧ t = .int .i64 z ∧ 0 ≤ z ∧ z ≤ 1048576 ∧ Hid (∀ j, j < k → (s j).size ≤ 1048576)) (fun _ i => n - (intOf i).toNat)
    case atStart => exact ⟨0, _, Nat.zero_le _, rfl, rfl, by omega, by omega, hid (fun j hj => by omega)⟩
    case round =>
      obtain ⟨k, z, hk, rfl, rfl, z0, z1, HK⟩ := hrel
      by_cases hlt : k < n
      · obtain ⟨b, off, ea, lt, hc⟩ := HS.out k hlt
        subst ea
        by_cases hl : (s k).size ≤ 1048576
        · by_cases hz : z + (s k).size ≤ 1048576
          · have HK2 := hid (show ∀ j, j < k + 1 → (s j).size ≤ 1048576 from fun j hj => by
              by_cases e : j = k
              · subst e; exact hl
              · exact HK.out j (by omega))
            go_wp2
            go_round
            case rel => exact ⟨k + 1, _, by omega, by go_num, rfl, by omega, by omega, HK2⟩
            case measure => simp [intOf]; omega
          · go_wp2
            go_ret
            exact ⟨.inl rfl, rfl⟩
        · go_wp2
          go_ret
          exact ⟨.inl rfl, rfl⟩
      · have HK2 := hid (show ∀ j, j < n → (s j).size ≤ 1048576 from fun j hj => HK.out j (by omega))
        by_cases hm : m ≤ 1048576
        · by_cases hz2 : z + m ≤ 1048576
          · go_wp2
            go_ret
            exact ⟨.inr ⟨rfl, HK2.out⟩, rfl⟩
          · go_wp2
            go_ret
            exact ⟨.inl rfl, rfl⟩
        · go_wp2
          go_ret
          exact ⟨.inl rfl, rfl⟩
  · go_enter Try.func5, Try.ntmps5
    go_wp2
    go_ret
    exact ⟨.inl rfl, rfl⟩

/-! ### zzBytes -/
set_option maxHeartbeats 2000000 in
theorem zzb13_any (a1 a2 : Option Addr) (n c1 m c2 : Nat) (s : Nat → ByteArray) (p : Int) (w : World) (hs : Strs w a1 n s) :
    Calls Try.prog 13 #[.slice a1 n c1, .slice a2 m c2, .int .i64 p] w fun e w' => FewSaid e n s ∧ w = w' := by
  have HS := hid hs
  clear hs
  by_cases hn : n ≤ 1048576
  · go_enter Try.func13, Try.ntmps13
    go_wp2
    go_loop [7, 8] (fun t i => ∃ (k : Nat) (z : Int), k ≤ n ∧ i = .int .i64 k ∧ t = .int .i64 z ∧ 0 ≤ z ∧ z ≤ 1048576 ∧ Hid (∀ j, j < k → (s j).size ≤ 1048576)) (fun _ i => n - (intOf i).toNat)
    case atStart => exact ⟨0, _, Nat.zero_le _, rfl, rfl, by omega, by omega, hid (fun j hj => by omega)⟩
    case round =>
      obtain ⟨k, z, hk, rfl, rfl, z0, z1, HK⟩ := hrel
      by_cases hlt : k < n
      · obtain ⟨b, off, ea, lt, hc⟩ := HS.out k hlt
        subst ea
        by_cases hl : (s k).size ≤ 1048576
        · by_cases hz : z + (s k).size ≤ 1048576
          · have HK2 := hid (show ∀ j, j < k + 1 → (s j).size ≤ 1048576 from fun j hj => by
              by_cases e : j = k
              · subst e; exact hl
              · exact HK.out j (by omega))
            go_wp2
            go_round
            case rel => exact ⟨k + 1, _, by omega, by go_num, rfl, by omega, by omega, HK2⟩
            case measure => simp [intOf]; omega
          · go_wp2
            go_ret
            exact ⟨.inl rfl, rfl⟩
        · go_wp2
          go_ret
          exact ⟨.inl rfl, rfl⟩
      · have HK2 := hid (show ∀ j, j < n → (s j).size ≤ 1048576 from fun j hj => HK.out j (by omega))
        by_cases hm : m ≤ 1048576
        · by_cases hz2 : z + m ≤ 1048576
          · go_wp2
            go_ret
            exact ⟨.inr ⟨rfl, HK2.out⟩, rfl⟩
          · go_wp2
            go_ret
            exact ⟨.inl rfl, rfl⟩
        · go_wp2
          go_ret
          exact ⟨.inl rfl, rfl⟩
  · go_enter Try.func13, Try.ntmps13
    go_wp2
    go_ret
    exact ⟨.inl rfl, rfl⟩

/-! ### scriptInRange -/
set_option maxHeartbeats 1000000 in
theorem range_any (a : Option Addr) (n m c : Nat) (z : Nat → Int) (w : World) (hm : m ≤ 65536) (hs : Ints w a m z) :
    Calls Try.prog 7 #[.int .i64 n, .slice a m c] w fun e w' => RangeSaid e n m z ∧ w = w' := by
  have HS := hid hs
  clear hs
  go_enter Try.func7, Try.ntmps7
  go_wp2
  go_loop [5] (fun i => ∃ k : Nat, k ≤ m ∧ i = .int .i64 k ∧ Hid (∀ j, j < k → 0 ≤ z j ∧ z j < (n : Int))) (fun i => m - (intOf i).toNat)
  case atStart => exact ⟨0, Nat.zero_le _, rfl, hid (fun j hj => by omega)⟩
  case round =>
    obtain ⟨k, hk, rfl, HK⟩ := hrel
    by_cases hlt : k < m
    · obtain ⟨b, off, ea, lt, hc⟩ := HS.out k hlt
      subst ea
      have i1 : (k : Int) < (m : Int) := by omega
      by_cases h0 : z k < 0
      · go_wp2
        go_ret
        exact ⟨.inl rfl, rfl⟩
      · by_cases h1 : (n : Int) ≤ z k
        · go_wp2
          go_ret
          exact ⟨.inl rfl, rfl⟩
        · have HK2 := hid (show ∀ j, j < k + 1 → 0 ≤ z j ∧ z j < (n : Int) from fun j hj => by
            by_cases e : j = k
            · subst e; omega
            · exact HK.out j (by omega))
          go_wp2
          go_round
          case rel => exact ⟨k + 1, by omega, by go_num, HK2⟩
          case measure => simp [intOf]; omega
    · have HK2 := hid (show ∀ j, j < m → 0 ≤ z j ∧ z j < (n : Int) from fun j hj => HK.out j (by omega))
      go_wp2
      go_ret
      exact ⟨.inr ⟨rfl, HK2.out⟩, rfl⟩
end Go.Proofs.Qxb6615205a
