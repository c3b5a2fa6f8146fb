/-
  hasParam, slices.ContainsFunc, slices.IndexFunc walked at the closure.
-/
import Derived.Test.Qxb6615192aBuild
namespace Go.Proofs.Qxb6615192a
open Go.RowKit

/-- is one of the first n named x -/
def anyEq (f : Nat → ByteArray) (x : ByteArray) : Nat → Bool
  | 0 => false
  | n + 1 => anyEq f x n || ((f n).toList == x.toList)

/-! ### the closure -/
theorem closure_any (s v x : ByteArray) (c : Nat) (w : World) (hc : w.cell? ⟨c, 0, none⟩ = some (.string x)) (hlt : c < w.heap.size) :
    Calls Try.prog 10 #[.agg #[.string s, .string v], .pointer (some ⟨c, 0, none⟩)] w fun e w' => e = .returned (.bool (s.toList == x.toList)) ∧ w' = w.alloc (.cells #[.string s, .string v] 28) := by
  go_enter Try.func10, Try.ntmps10
  go_wp2
  go_ret
  exact ⟨rfl, rfl⟩

theorem Prs.below {w w' : World} {g n : Nat} {f : Nat → ByteArray} (h : Prs w g n f) {B : Nat} (hb : Below B w w') (hB : g < B) : Prs w' g n f := fun i hi => by
  rw [hb.cell (p := ⟨g, i * 2, none⟩) hB, hb.cell (p := ⟨g, i * 2 + 1, none⟩) hB]
  exact h i hi

/-! ### slices.IndexFunc at the closure -/
set_option maxHeartbeats 1000000 in
set_option maxRecDepth 100000 in
theorem index_any (g n cap c : Nat) (f : Nat → ByteArray) (x : ByteArray) (w : World) (hn : n ≤ 65537) (hg : g < w.heap.size) (hc : w.cell? ⟨c, 0, none⟩ = some (.string x)) (hlt : c < w.heap.size) (hp : Prs w g n f) :
    Calls Try.prog 11 #[.slice (some ⟨g, 0, none⟩) n cap, .func (.func 10) #[] #[.pointer (some ⟨c, 0, none⟩)]] w fun e w' => (∃ r : Int, e = .returned (.int .i64 r) ∧ decide (0 ≤ r) = anyEq f x n) ∧ Below w.heap.size w w' := by
  have HP := hid hp
  clear hp
  go_enter Try.func11, Try.ntmps11
  go_wp2
  go_loopw [8] (fun i wr => ∃ k : Nat, k ≤ n ∧ i = .int .i64 k ∧ Below w.heap.size w wr ∧ Hid (anyEq f x k = false)) (fun i _ => n - (intOf i).toNat)
  case atStart => exact ⟨0, Nat.zero_le _, rfl, Below.refl _ _, hid rfl⟩
  case round =>
    obtain ⟨k, hk, rfl, hbel, HA⟩ := hrel
    by_cases hlt' : k < n
    · obtain ⟨c0, v, c1⟩ := (HP.out.below hbel hg) k hlt'
      have hcl := hid (closure_any (f k) v x c wr ((hbel.cell (p := ⟨c, 0, none⟩) hlt).trans hc) (Nat.lt_of_lt_of_le hlt hbel.size))
      cases heq : ((f k).toList == x.toList) with
      | true =>
        rw [heq] at hcl
        have HN := hid (show anyEq f x n = true from by
          have h1 : anyEq f x (k + 1) = true := by simp only [anyEq, heq, Bool.or_true]
          have h2 : ∀ m, k + 1 ≤ m → anyEq f x m = true := by
            intro m hm
            induction m with
            | zero => omega
            | succ m ih =>
              by_cases e : k = m
              · subst e; exact h1
              · simp only [anyEq, ih (by omega), Bool.true_or]
          exact h2 n (by omega))
        clear heq
        go_wp2_with (go_at_call 10; refine (hcl.out).mono ?_; rintro e w' ⟨rfl, rfl⟩)
        go_ret
        exact ⟨⟨k, rfl, by rw [HN.out]; simp⟩, hbel.alloc hbel.size _⟩
      | false =>
        rw [heq] at hcl
        have HN := hid (show anyEq f x (k + 1) = false by simp only [anyEq, heq, HA.out, Bool.or_false])
        clear heq
        go_wp2_with (go_at_call 10; refine (hcl.out).mono ?_; rintro e w' ⟨rfl, rfl⟩)
        go_roundw
        case rel => exact ⟨k + 1, by omega, by go_num, hbel.alloc hbel.size _, HN⟩
        case measure => simp [intOf]; omega
    · have e : k = n := by omega
      subst e
      go_wp2
      go_ret
      exact ⟨⟨-1, rfl, by rw [HA.out]; rfl⟩, hbel⟩

theorem contains_any (g n cap c : Nat) (f : Nat → ByteArray) (x : ByteArray) (w : World) (hn : n ≤ 65537) (hg : g < w.heap.size) (hc : w.cell? ⟨c, 0, none⟩ = some (.string x)) (hlt : c < w.heap.size) (hp : Prs w g n f) :
    Calls Try.prog 9 #[.slice (some ⟨g, 0, none⟩) n cap, .func (.func 10) #[] #[.pointer (some ⟨c, 0, none⟩)]] w fun e w' => e = .returned (.bool (anyEq f x n)) ∧ Below w.heap.size w w' := by
  have H := hid (index_any g n cap c f x w hn hg hc hlt hp)
  clear hp
  go_enter Try.func9, Try.ntmps9
  go_wp2_with fail
  refine H.out.mono ?_
  rintro e w' ⟨⟨r, rfl, hr⟩, hb⟩
  have HR := hid hr
  clear hr
  go_wp2
  go_ret
  exact ⟨by rw [← HR.out]; rfl, hb⟩

theorem has_any (g n cap : Nat) (f : Nat → ByteArray) (x : ByteArray) (w : World) (hn : n ≤ 65537) (hg : g < w.heap.size) (hp : Prs w g n f) :
    Calls Try.prog 8 #[.slice (some ⟨g, 0, none⟩) n cap, .string x] w fun e w' => e = .returned (.bool (anyEq f x n)) ∧ Below w.heap.size w w' := by
  have HP := hid hp
  clear hp
  go_enter Try.func8, Try.ntmps8
  go_wp2_with fail
  have hb1 : Below w.heap.size w (w.alloc (.cells #[.string x] 9)) := (Below.refl _ _).alloc (Nat.le_refl _) _
  refine (contains_any g n cap w.heap.size f x _ hn (by simp; omega) (by simp) (by simp) (HP.out.below hb1 hg)).mono ?_
  rintro e w' ⟨rfl, hb⟩
  have HB := hid (hb1.trans (hb.mono (by simp)))
  clear hb hb1
  go_wp2
  go_ret
  exact ⟨rfl, HB.out⟩

theorem zzhas_any (g n cap : Nat) (f : Nat → ByteArray) (x : ByteArray) (w : World) (hn : n ≤ 65537) (hg : g < w.heap.size) (hp : Prs w g n f) :
    Calls Try.prog 7 #[.slice (some ⟨g, 0, none⟩) n cap, .string x] w fun e w' => e = .returned (.bool (anyEq f x n)) ∧ Below w.heap.size w w' := by
  have H := hid (has_any g n cap f x w hn hg hp)
  clear hp
  go_enter Try.func7, Try.ntmps7
  go_wp2_with fail
  refine H.out.mono ?_
  rintro e w' ⟨rfl, hb⟩
  have HB := hid hb
  clear hb
  go_wp2
  go_ret
  exact ⟨rfl, HB.out⟩
end Go.Proofs.Qxb6615192a
