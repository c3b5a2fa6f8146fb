/-
  A PMU place in memory (six cells); copyPlaces walked.
-/
import Derived.Test.Qxb6615186aWalkA
import Derived.RegionTactic
import Derived.ChangeAlike
import Derived.Laws.EntriesVeiled
namespace Go.Proofs.Qxb6615186a
open Go.RowKit

/-- one PMU's place, field by field -/
structure Pl where
  ch : Int
  kn : Bool
  un : Bool
  fi : Int
  pl : Bool
  cb : Bool

/-- its cell j -/
def plv (x : Pl) : Nat → Value
  | 0 => .int .i64 x.ch
  | 1 => .bool x.kn
  | 2 => .bool x.un
  | 3 => .int .i64 x.fi
  | 4 => .bool x.pl
  | _ => .bool x.cb

/-- n places lie from ⟨b, off⟩ on, six cells each -/
def Pls (w : World) (b off n : Nat) (q : Nat → Pl) : Prop := ∀ i, i < n → ∀ j, j < 6 → w.cell? ⟨b, off + i * 6 + j, none⟩ = some (plv (q i) j)

theorem Pls.at {w : World} {b off n : Nat} {q : Nat → Pl} (h : Pls w b off n q) {k : Nat} (hk : k < n) :
    w.cell? ⟨b, off + k * 6, none⟩ = some (.int .i64 (q k).ch) ∧ w.cell? ⟨b, off + k * 6 + 1, none⟩ = some (.bool (q k).kn) ∧ w.cell? ⟨b, off + k * 6 + 2, none⟩ = some (.bool (q k).un) ∧
    w.cell? ⟨b, off + k * 6 + 3, none⟩ = some (.int .i64 (q k).fi) ∧ w.cell? ⟨b, off + k * 6 + 4, none⟩ = some (.bool (q k).pl) ∧ w.cell? ⟨b, off + k * 6 + 5, none⟩ = some (.bool (q k).cb) :=
  ⟨h k hk 0 (by omega), h k hk 1 (by omega), h k hk 2 (by omega), h k hk 3 (by omega), h k hk 4 (by omega), h k hk 5 (by omega)⟩

theorem Pls.below {w w' : World} {b off n : Nat} {q : Nat → Pl} (h : Pls w b off n q) {B : Nat} (hb : Below B w w') (hB : b < B) : Pls w' b off n q :=
  fun i hi j hj => (hb.cell (p := ⟨b, off + i * 6 + j, none⟩) hB).trans (h i hi j hj)

/-- block g is a row of n places of element type t, of which the first k are q's -/
def PlRow (w : World) (g t n k : Nat) (q : Nat → Pl) : Prop := ∃ f, w.rowIs g t (n * 6) f ∧ ∀ i, i < k → ∀ j, j < 6 → f (i * 6 + j) = plv (q i) j

theorem PlRow.pls {w : World} {g t n : Nat} {q : Nat → Pl} (h : PlRow w g t n n q) : Pls w g 0 n q := by
  obtain ⟨f, hf, hq⟩ := h
  intro i hi j hj
  rw [Nat.zero_add, hf.cell (i := i * 6 + j) (by omega), hq i hi j hj]

theorem PlRow.some {w : World} {g t n k : Nat} {q : Nat → Pl} (h : PlRow w g t n k q) {i : Nat} (hi : i < n * 6) : ∃ v, w.cell? ⟨g, i, none⟩ = some v := by
  obtain ⟨f, hf, _⟩ := h
  exact ⟨_, hf.cell hi⟩

theorem PlRow.frozen {w : World} {g t n k : Nat} {q : Nat → Pl} (h : PlRow w g t n k q) (i : Nat) : w.frozen? ⟨g, i, none⟩ = false := by
  obtain ⟨f, hf, _⟩ := h
  exact hf.frozen i

theorem PlRow.lt {w : World} {g t n k : Nat} {q : Nat → Pl} (h : PlRow w g t n k q) : g < w.heap.size := by
  obtain ⟨f, hf, _⟩ := h
  exact hf.lt

/-- behind the k-th place's six stores -/
theorem PlRow.put {w : World} {g t n k : Nat} {q : Nat → Pl} (h : PlRow w g t n k q) :
    PlRow ((((((w.setCell ⟨g, k * 6, none⟩ (.int .i64 (q k).ch)).setCell ⟨g, k * 6 + 1, none⟩ (.bool (q k).kn)).setCell ⟨g, k * 6 + 2, none⟩ (.bool (q k).un)).setCell ⟨g, k * 6 + 3, none⟩ (.int .i64 (q k).fi)).setCell ⟨g, k * 6 + 4, none⟩ (.bool (q k).pl)).setCell ⟨g, k * 6 + 5, none⟩ (.bool (q k).cb)) g t n (k + 1) q := by
  obtain ⟨f, hf, hq⟩ := h
  refine ⟨_, (((((hf.set (k * 6) (.int .i64 (q k).ch)).set (k * 6 + 1) (.bool (q k).kn)).set (k * 6 + 2) (.bool (q k).un)).set (k * 6 + 3) (.int .i64 (q k).fi)).set (k * 6 + 4) (.bool (q k).pl)).set (k * 6 + 5) (.bool (q k).cb), fun i hi j hj => ?_⟩
  by_cases e : i = k
  · subst e
    match j, hj with
    | 0, _ => simp [plv]
    | 1, _ => simp [plv]
    | 2, _ => simp [plv]
    | 3, _ => simp [plv]
    | 4, _ => simp [plv]
    | 5, _ => simp [plv]
  · rw [if_neg (by omega), if_neg (by omega), if_neg (by omega), if_neg (by omega), if_neg (by omega), if_neg (by omega)]
    exact hq i (by omega) j hj

theorem Below.put6 {B : Nat} {a w : World} {g : Nat} (h : Below B a w) (hg : B ≤ g) (i0 i1 i2 i3 i4 i5 : Nat) (v0 v1 v2 v3 v4 v5 : Value) :
    Below B a ((((((w.setCell ⟨g, i0, none⟩ v0).setCell ⟨g, i1, none⟩ v1).setCell ⟨g, i2, none⟩ v2).setCell ⟨g, i3, none⟩ v3).setCell ⟨g, i4, none⟩ v4).setCell ⟨g, i5, none⟩ v5) :=
  (((((h.setCell (p := ⟨g, i0, none⟩) hg v0).setCell (p := ⟨g, i1, none⟩) hg v1).setCell (p := ⟨g, i2, none⟩) hg v2).setCell (p := ⟨g, i3, none⟩) hg v3).setCell (p := ⟨g, i4, none⟩) hg v4).setCell (p := ⟨g, i5, none⟩) hg v5

/-! ### make -/
theorem Try.info55 : (Try.prog.info? 55).map (fun i => (i.zero, i.size, i.bytes)) = some (some (.agg #[.int .i64 0, .bool false, .bool false, .int .i64 0, .bool false, .bool false]), 6, 32) := by kernel_rfl
theorem Try.info57 : (Try.prog.info? 57).map (fun i => (i.zero, i.size, i.bytes)) = some (some (.agg #[.int .i64 0, .bool false, .bool false, .int .i64 0, .bool false, .bool false]), 6, 32) := by kernel_rfl

abbrev plZero : Array Value := #[.int .i64 0, .bool false, .bool false, .int .i64 0, .bool false, .bool false]

theorem run_make_pl39 (n : Nat) (hn : n ≤ 65536) (w : World) :
    (Instr.makeSlice 39 (.int .i64 (n : Int)) (.int .i64 (n : Int))).run Try.prog w = .ok (.slice (some ⟨w.heap.size, 0, none⟩) n n) (w.alloc (.cells (madeCells plZero (n * 6)) 55)) := by
  obtain ⟨i, hi, hzz⟩ := Option.map_eq_some_iff.1 Try.info55
  simp only [Prod.mk.injEq] at hzz
  obtain ⟨hz, hs, hb⟩ := hzz
  have hr := run_make (P := Try.prog) w 39 55 i _ Try.underlying39 hi hz .i64 .i64 n n (by omega) (Int.le_refl _) (by rw [hb]; omega) (by omega)
  simp only [Int.toNat_natCast, hs, Value.cells] at hr
  exact hr

theorem run_make_pl54 (n : Nat) (hn : n ≤ 65536) (w : World) :
    (Instr.makeSlice 54 (.int .i64 (n : Int)) (.int .i64 (n : Int))).run Try.prog w = .ok (.slice (some ⟨w.heap.size, 0, none⟩) n n) (w.alloc (.cells (madeCells plZero (n * 6)) 57)) := by
  obtain ⟨i, hi, hzz⟩ := Option.map_eq_some_iff.1 Try.info57
  simp only [Prod.mk.injEq] at hzz
  obtain ⟨hz, hs, hb⟩ := hzz
  have hr := run_make (P := Try.prog) w 54 57 i _ Try.underlying54 hi hz .i64 .i64 n n (by omega) (Int.le_refl _) (by rw [hb]; omega) (by omega)
  simp only [Int.toNat_natCast, hs, Value.cells] at hr
  exact hr

theorem plRow_made (w : World) (t n : Nat) (q : Nat → Pl) : PlRow (w.alloc (.cells (madeCells plZero (n * 6)) t)) w.heap.size t n 0 q := by
  refine ⟨fun i => plZero[i % 6]!, ⟨_, Deep.blk_alloc_new _ _, size_madeCells _ _, fun i hi => ?_⟩, fun i hi => by omega⟩
  simp [madeCells, hi]

/-! ### copyPlaces -/
set_option maxHeartbeats 1000000 in
set_option maxRecDepth 100000 in
theorem copyPl_any (b off n cap : Nat) (q : Nat → Pl) (w : World) (hn : n ≤ 32768) (hb : b < w.heap.size) (hq : Pls w b off n q) :
    Calls Try.prog 16 #[.slice (some ⟨b, off, none⟩) n cap] w fun e w' => e = .returned (.slice (some ⟨w.heap.size, 0, none⟩) n n) ∧ Below w.heap.size w w' ∧ PlRow w' w.heap.size 55 n n q := by
  have hmk := run_make_pl39 n (by omega)
  have hq0 : ∀ (w : World) (a : Option Addr) (n c n' c' : Nat), (binOp .eql 35 (.slice a n c) (.slice none n' c')).run Try.prog w = .ok (.bool a.isNone) w := fun w a n c n' c' => Lib.run_eql_slice_nil w _ _ a n c n' c' Try.underlying35
  have H0 := hid (plRow_made w 55 n q)
  have HQ := hid hq
  clear hq
  go_enter Try.func16, Try.ntmps16
  go_wp2
  go_loopw [4] (fun i wr => ∃ k : Nat, k ≤ n ∧ i = .int .i64 k ∧ Below w.heap.size w wr ∧ PlRow wr w.heap.size 55 n k q) (fun i _ => n - (intOf i).toNat)
  case atStart => exact ⟨0, Nat.zero_le _, rfl, (Below.refl _ _).alloc (Nat.le_refl _) _, H0.out⟩
  case round =>
    obtain ⟨k, hk, rfl, hbel, hrow⟩ := hrel
    by_cases hlt : k < n
    · obtain ⟨c0, c1, c2, c3, c4, c5⟩ := (HQ.out.below hbel hb).at hlt
      obtain ⟨v0, d0⟩ := hrow.some (i := k * 6) (by omega)
      obtain ⟨v1, d1⟩ := hrow.some (i := k * 6 + 1) (by omega)
      obtain ⟨v2, d2⟩ := hrow.some (i := k * 6 + 2) (by omega)
      obtain ⟨v3, d3⟩ := hrow.some (i := k * 6 + 3) (by omega)
      obtain ⟨v4, d4⟩ := hrow.some (i := k * 6 + 4) (by omega)
      obtain ⟨v5, d5⟩ := hrow.some (i := k * 6 + 5) (by omega)
      have z := hrow.frozen
      have HR := hid hrow.put
      clear hmk hq0 hrow
      go_wp2
      go_roundw
      case rel => exact ⟨k + 1, by omega, by go_num, Below.put6 hbel (Nat.le_refl _) _ _ _ _ _ _ _ _ _ _ _ _, HR.out⟩
      case measure => simp [intOf]; omega
    · have e : k = n := by omega
      subst e
      have HR := hid hrow
      clear hmk hq0 hrow
      go_wp2
      go_ret
      exact ⟨rfl, hbel, HR.out⟩

end Go.Proofs.Qxb6615186a
