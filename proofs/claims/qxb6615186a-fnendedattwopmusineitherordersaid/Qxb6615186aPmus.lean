/-
  ZZchannelPlacementPmus walked.
-/
import Derived.Test.Qxb6615186aEnded
import Derived.Deep.RegionHeld3
namespace Go.Proofs.Qxb6615186a
open Go.RowKit

/-! ### ZZchannelPlacementPmus -/
set_option maxHeartbeats 2000000 in
set_option maxRecDepth 100000 in
theorem pmus_any (c g h n : Nat) (sens : Int) (q : Nat → Pl) (w : World) (hn : n ≤ 32768) (P : Placed w c g h n sens q) :
    Calls Try.prog 19 #[.pointer (some ⟨c, 0, none⟩)] w fun e w' => e = .returned (.slice (some ⟨w.heap.size, 0, none⟩) n n) ∧ Below w.heap.size w w' ∧ PlRow w' w.heap.size 55 n n q := by
  obtain ⟨k0, k2, k3, k4, kz, lc, lg, lh, ncg, nch, ngh⟩ := P.cells
  have hmk := run_make_pl39 n (by omega)
  have H0 := hid (plRow_made w 55 n q)
  have HQ := hid P.row.pls
  clear k0 k2 k4 kz lh ncg nch ngh P
  go_enter Try.func19, Try.ntmps19
  go_wp2
  go_loopw [4] (fun i wr => ∃ k : Nat, k ≤ n ∧ i = .int .i64 k ∧ Below w.heap.size w wr ∧ PlRow wr w.heap.size 55 n k q) (fun i _ => n - (intOf i).toNat)
  case atStart => exact ⟨0, Nat.zero_le _, rfl, (Below.refl _ _).alloc (Nat.le_refl _) _, H0.out⟩
  case round =>
    obtain ⟨k, hk, rfl, hbel, hrow⟩ := hrel
    have j3 := (hbel.cell (p := ⟨c, 3, none⟩) lc).trans k3
    by_cases hlt : k < n
    · obtain ⟨c0, c1, c2, c3, c4, c5⟩ := (HQ.out.below hbel lg).at hlt
      rw [Nat.zero_add] at c0 c1 c2 c3 c4 c5
      obtain ⟨v0, d0⟩ := hrow.some (i := k * 6) (by omega)
      obtain ⟨v1, d1⟩ := hrow.some (i := k * 6 + 1) (by omega)
      obtain ⟨v2, d2⟩ := hrow.some (i := k * 6 + 2) (by omega)
      obtain ⟨v3, d3⟩ := hrow.some (i := k * 6 + 3) (by omega)
      obtain ⟨v4, d4⟩ := hrow.some (i := k * 6 + 4) (by omega)
      obtain ⟨v5, d5⟩ := hrow.some (i := k * 6 + 5) (by omega)
      have z := hrow.frozen
      have HR := hid hrow.put
      have n1 : w.heap.size ≠ c := by omega
      have n2 : w.heap.size ≠ g := by omega
      have n3 : c ≠ w.heap.size := by omega
      have n4 : g ≠ w.heap.size := by omega
      have i0 : (0 : Int) ≤ (k : Int) := by omega
      have i1 : (k : Int) < (n : Int) := by omega
      clear hmk hrow k3
      go_wp2
      go_region_held3 (fun w' => w'.cell? ⟨c, 3, none⟩ = some (.slice (some ⟨g, 0, none⟩) n n) ∧ w'.cell? ⟨g, k * 6, none⟩ = some (.int .i64 (q k).ch) ∧ w'.cell? ⟨g, k * 6 + 1, none⟩ = some (.bool (q k).kn) ∧ w'.cell? ⟨g, k * 6 + 2, none⟩ = some (.bool (q k).un) ∧ w'.cell? ⟨g, k * 6 + 3, none⟩ = some (.int .i64 (q k).fi) ∧ w'.cell? ⟨g, k * 6 + 4, none⟩ = some (.bool (q k).pl) ∧ w'.cell? ⟨g, k * 6 + 5, none⟩ = some (.bool (q k).cb)) (go_keep) (fail)
      go_wp2
      go_roundw
      case rel => exact ⟨k + 1, by omega, by go_num, (Below.put6 hbel (Nat.le_refl _) _ _ _ _ _ _ _ _ _ _ _ _).drew, HR.out.drew⟩
      case measure => simp [intOf]; omega
    · have e : k = n := by omega
      subst e
      have HR := hid hrow
      clear hmk hrow k3
      go_wp2
      go_ret
      exact ⟨rfl, hbel, HR.out⟩
end Go.Proofs.Qxb6615186a
