/-
  addStringSizes, zzBytes, buildPairs walked.
-/
import Derived.Test.Qxb6615192aProg
import Derived.WalkKit
import Derived.WalkSpells
import Derived.WalkLawsBesides
import Derived.Deep.OwnRows
namespace Go.Proofs.Qxb6615192a
open Go.RowKit

theorem hid {p : Prop} (h : p) : Hid p := h

/-- WHAT IS KNOWN OF A SLICE OF STRINGS THAT CAME IN -/
def Strs (w : World) (a : Option Addr) (n : Nat) (ss : Nat → ByteArray) : Prop :=
  ∀ i, i < n → ∃ b off, a = some ⟨b, off, none⟩ ∧ b < w.heap.size ∧ w.cell? ⟨b, off + i, none⟩ = some (.string (ss i))

theorem Strs.below {w w' : World} {a : Option Addr} {n : Nat} {ss : Nat → ByteArray} (h : Strs w a n ss) {B : Nat} (hb : Below B w w') (hB : w.heap.size ≤ B) : Strs w' a n ss := fun i hi => by
  obtain ⟨b, off, e, lt, hc⟩ := h i hi
  exact ⟨b, off, e, Nat.lt_of_lt_of_le lt hb.size, (hb.cell (p := ⟨b, off + i, none⟩) (by simp; omega)).trans hc⟩

/-! ### addStringSizes: some number within bounds -/
set_option maxHeartbeats 400000 in
theorem sizes_any (t : Int) (a : Option Addr) (n cap : Nat) (ss : Nat → ByteArray) (w : World) (h0 : 0 ≤ t) (h1 : t ≤ 4000000) (hn : n ≤ 65536) (hs : Strs w a n ss) :
    Calls Try.prog 5 #[.int .i64 t, .slice a n cap] w fun e w' => ∃ r : Int, e = .returned (.int .i64 r) ∧ 0 ≤ r ∧ r ≤ 4000000 ∧ w = w' := by
  have HS := hid hs
  clear hs
  go_enter Try.func5, Try.ntmps5
  go_wp2
  go_loop [0, 5] (fun t i => ∃ (k : Nat) (z : Int), k ≤ n ∧ i = .int .i64 k ∧ t = .int .i64 z ∧ 0 ≤ z ∧ z ≤ 4000000) (fun _ i => n - (intOf i).toNat)
  case atStart => exact ⟨0, t, Nat.zero_le _, rfl, rfl, h0, h1⟩
  case round =>
    obtain ⟨k, z, hk, rfl, rfl, z0, z1⟩ := hrel
    by_cases hlt : k < n
    · obtain ⟨b, off, ea, lt, hc⟩ := HS.out k hlt
      subst ea
      by_cases hz : z ≤ 1048576
      · by_cases hl : (ss k).size ≤ 1048576
        · go_wp2
          go_round
          case rel => exact ⟨k + 1, _, by omega, by go_num, rfl, by omega, by omega⟩
          case measure => simp [intOf]; omega
        · go_wp2
          go_ret
          exact ⟨_, rfl, by omega, by omega, rfl⟩
      · go_wp2
        go_ret
        exact ⟨_, rfl, by omega, by omega, rfl⟩
    · go_wp2
      go_ret
      exact ⟨_, rfl, by omega, by omega, rfl⟩

/-! ### zzBytes: some bool -/
def SomeBool (e : Ending) : Prop := ∃ r : Bool, e = .returned (.bool r)
set_option maxHeartbeats 2000000 in
set_option maxRecDepth 100000 in
theorem zzb_any (a1 a2 : Option Addr) (n1 c1 n2 c2 : Nat) (s1 s2 : Nat → ByteArray) (name value other : ByteArray) (p : Int) (w : World) (hs1 : Strs w a1 n1 s1) (hs2 : Strs w a2 n2 s2) :
    Calls Try.prog 4 #[.slice a1 n1 c1, .slice a2 n2 c2, .string name, .string value, .int .i64 p, .string other] w fun e w' => SomeBool e ∧ w = w' := by
  have HS1 := hid hs1
  have HS2 := hid hs2
  clear hs1 hs2
  by_cases hn1 : n1 ≤ 1048576
  · go_enter Try.func4, Try.ntmps4
    go_wp2
    go_loop [13, 14] (fun t i => ∃ (k : Nat) (z : Int), k ≤ n1 ∧ i = .int .i64 k ∧ t = .int .i64 z ∧ 0 ≤ z ∧ z ≤ 1048576) (fun _ i => n1 - (intOf i).toNat)
    case atStart => exact ⟨0, _, Nat.zero_le _, rfl, rfl, by omega, by omega⟩
    case round =>
      obtain ⟨k, z, hk, rfl, rfl, z0, z1⟩ := hrel
      by_cases hlt : k < n1
      · obtain ⟨b, off, ea, lt, hc⟩ := HS1.out k hlt
        subst ea
        by_cases hl : (s1 k).size ≤ 1048576
        · by_cases hz : z + (s1 k).size ≤ 1048576
          · go_wp2
            go_round
            case rel => exact ⟨k + 1, _, by omega, by go_num, rfl, by omega, by omega⟩
            case measure => simp [intOf]; omega
          · go_wp2
            go_ret
            exact ⟨⟨_, rfl⟩, rfl⟩
        · go_wp2
          go_ret
          exact ⟨⟨_, rfl⟩, rfl⟩
      · by_cases hn2 : n2 ≤ 1048576
        · by_cases hz2 : z + n2 ≤ 1048576
          · go_wp2
            go_loop [13, 15] (fun t i => ∃ (k : Nat) (z : Int), k ≤ n2 ∧ i = .int .i64 k ∧ t = .int .i64 z ∧ 0 ≤ z ∧ z ≤ 1048576) (fun _ i => n2 - (intOf i).toNat)
            case atStart => exact ⟨0, _, Nat.zero_le _, rfl, rfl, by omega, by omega⟩
            case round =>
              obtain ⟨k', z', hk', rfl, rfl, z0', z1'⟩ := hrel
              by_cases hlt' : k' < n2
              · obtain ⟨b, off, ea, lt, hc⟩ := HS2.out k' hlt'
                subst ea
                by_cases hl : (s2 k').size ≤ 1048576
                · by_cases hz : z' + (s2 k').size ≤ 1048576
                  · go_wp2
                    go_round
                    case rel => exact ⟨k' + 1, _, by omega, by go_num, rfl, by omega, by omega⟩
                    case measure => simp [intOf]; omega
                  · go_wp2
                    go_ret
                    exact ⟨⟨_, rfl⟩, rfl⟩
                · go_wp2
                  go_ret
                  exact ⟨⟨_, rfl⟩, rfl⟩
              · go_wp2
                all_goals
                  go_ret
                  exact ⟨⟨_, rfl⟩, rfl⟩
          · go_wp2
            go_ret
            exact ⟨⟨_, rfl⟩, rfl⟩
        · go_wp2
          go_ret
          exact ⟨⟨_, rfl⟩, rfl⟩
  · go_enter Try.func4, Try.ntmps4
    go_wp2
    go_ret
    exact ⟨⟨_, rfl⟩, rfl⟩

/-! ### buildPairs -/
theorem Try.info28 : (Try.prog.info? 28).map (fun i => (i.zero, i.size, i.bytes)) = some (some (.agg #[.string ⟨#[]⟩, .string ⟨#[]⟩]), 2, 32) := by kernel_rfl

theorem run_make_prs (n : Nat) (hn : n ≤ 65536) (w : World) :
    (Instr.makeSlice 25 (.int .i64 (n : Int)) (.int .i64 (n : Int))).run Try.prog w = .ok (.slice (some ⟨w.heap.size, 0, none⟩) n n) (w.alloc (.cells (madeCells #[.string ⟨#[]⟩, .string ⟨#[]⟩] (n * 2)) 28)) := by
  obtain ⟨i, hi, hzz⟩ := Option.map_eq_some_iff.1 Try.info28
  simp only [Prod.mk.injEq] at hzz
  obtain ⟨hz, hs, hb⟩ := hzz
  have hr := run_make (P := Try.prog) w 25 28 i _ Try.underlying25 hi hz .i64 .i64 n n (by omega) (Int.le_refl _) (by rw [hb]; omega) (by omega)
  simp only [Int.toNat_natCast, hs, Value.cells] at hr
  exact hr

/-- block g holds pairs, the first k of them named by f -/
def PrRow (w : World) (g n k : Nat) (f : Nat → ByteArray) : Prop := ∃ c, w.rowIs g 28 (n * 2) c ∧ ∀ j, j < k → c (j * 2) = .string (f j) ∧ ∃ v, c (j * 2 + 1) = .string v

/-- n pairs lie at block g, named by f -/
def Prs (w : World) (g n : Nat) (f : Nat → ByteArray) : Prop := ∀ i, i < n → w.cell? ⟨g, i * 2, none⟩ = some (.string (f i)) ∧ ∃ v, w.cell? ⟨g, i * 2 + 1, none⟩ = some (.string v)

theorem prRow_made (w : World) (n : Nat) (f : Nat → ByteArray) : PrRow (w.alloc (.cells (madeCells #[.string ⟨#[]⟩, .string ⟨#[]⟩] (n * 2)) 28)) w.heap.size n 0 f := by
  refine ⟨fun i => (#[Value.string ⟨#[]⟩, .string ⟨#[]⟩])[i % 2]!, ⟨_, Deep.blk_alloc_new _ _, size_madeCells _ _, fun i hi => ?_⟩, fun j hj => by omega⟩
  simp [madeCells, hi]

theorem PrRow.prs {w : World} {g n : Nat} {f : Nat → ByteArray} (h : PrRow w g n n f) : Prs w g n f := by
  obtain ⟨c, hc, hf⟩ := h
  intro i hi
  rw [hc.cell (i := i * 2) (by omega), hc.cell (i := i * 2 + 1) (by omega), (hf i hi).1]
  obtain ⟨v, hv⟩ := (hf i hi).2
  exact ⟨rfl, v, by rw [hv]⟩
theorem PrRow.some {w : World} {g n k : Nat} {f : Nat → ByteArray} (h : PrRow w g n k f) {i : Nat} (hi : i < n * 2) : ∃ v, w.cell? ⟨g, i, none⟩ = some v := by
  obtain ⟨c, hc, _⟩ := h
  exact ⟨_, hc.cell hi⟩
theorem PrRow.frozen {w : World} {g n k : Nat} {f : Nat → ByteArray} (h : PrRow w g n k f) (i : Nat) : w.frozen? ⟨g, i, none⟩ = false := by
  obtain ⟨c, hc, _⟩ := h
  exact hc.frozen i
theorem PrRow.lt {w : World} {g n k : Nat} {f : Nat → ByteArray} (h : PrRow w g n k f) : g < w.heap.size := by
  obtain ⟨c, hc, _⟩ := h
  exact hc.lt
theorem PrRow.put {w : World} {g n k : Nat} {f : Nat → ByteArray} (h : PrRow w g n k f) (v : ByteArray) :
    PrRow ((w.setCell ⟨g, k * 2, none⟩ (.string (f k))).setCell ⟨g, k * 2 + 1, none⟩ (.string v)) g n (k + 1) f := by
  obtain ⟨c, hc, hf⟩ := h
  refine ⟨_, (hc.set (k * 2) (.string (f k))).set (k * 2 + 1) (.string v), fun j hj => ?_⟩
  by_cases e : j = k
  · subst e
    exact ⟨by simp, v, by simp⟩
  · rw [if_neg (by omega), if_neg (by omega), if_neg (by omega), if_neg (by omega)]
    exact hf j (by omega)

set_option maxHeartbeats 1000000 in
set_option maxRecDepth 100000 in
theorem build_any (a1 a2 : Option Addr) (n1 c1 n2 c2 : Nat) (s1 s2 : Nat → ByteArray) (w : World) (hn1 : n1 ≤ 65536) (hs1 : Strs w a1 n1 s1) (hs2 : Strs w a2 n2 s2) :
    Calls Try.prog 6 #[.slice a1 n1 c1, .slice a2 n2 c2] w fun e w' => e = .returned (.slice (some ⟨w.heap.size, 0, none⟩) n1 n1) ∧ Below w.heap.size w w' ∧ PrRow w' w.heap.size n1 n1 s1 := by
  have HS1 := hid hs1
  have HS2 := hid hs2
  have hmk := run_make_prs n1 hn1
  have H0 := hid (prRow_made w n1 s1)
  clear hs1 hs2
  go_enter Try.func6, Try.ntmps6
  go_wp2
  go_loopw [6] (fun i wr => ∃ k : Nat, k ≤ n1 ∧ i = .int .i64 k ∧ Below w.heap.size w wr ∧ PrRow wr w.heap.size n1 k s1) (fun i _ => n1 - (intOf i).toNat)
  case atStart => exact ⟨0, Nat.zero_le _, rfl, (Below.refl _ _).alloc (Nat.le_refl _) _, H0.out⟩
  case round =>
    obtain ⟨k, hk, rfl, hbel, hrow⟩ := hrel
    by_cases hlt : k < n1
    · obtain ⟨b, off, ea, lt, hc⟩ := HS1.out.below hbel (Nat.le_refl _) k hlt
      subst ea
      obtain ⟨v0, d0⟩ := hrow.some (i := k * 2) (by omega)
      obtain ⟨v1, d1⟩ := hrow.some (i := k * 2 + 1) (by omega)
      have z := hrow.frozen
      have HR := hid hrow.put
      clear hmk hrow
      by_cases h2 : k < n2
      · obtain ⟨b', off', ea', lt', hc'⟩ := HS2.out.below hbel (Nat.le_refl _) k h2
        subst ea'
        go_wp2
        go_roundw
        case rel => exact ⟨k + 1, by omega, by go_num, (hbel.setCell (p := ⟨w.heap.size, k * 2, none⟩) (Nat.le_refl _) _).setCell (p := ⟨w.heap.size, k * 2 + 1, none⟩) (Nat.le_refl _) _, HR.out _⟩
        case measure => simp [intOf]; omega
      · go_wp2
        go_roundw
        case rel => exact ⟨k + 1, by omega, by go_num, (hbel.setCell (p := ⟨w.heap.size, k * 2, none⟩) (Nat.le_refl _) _).setCell (p := ⟨w.heap.size, k * 2 + 1, none⟩) (Nat.le_refl _) _, HR.out _⟩
        case measure => simp [intOf]; omega
    · have e : k = n1 := by omega
      subst e
      have HR := hid hrow
      clear hmk hrow
      go_wp2
      go_ret
      exact ⟨rfl, hbel, HR.out⟩
end Go.Proofs.Qxb6615192a
