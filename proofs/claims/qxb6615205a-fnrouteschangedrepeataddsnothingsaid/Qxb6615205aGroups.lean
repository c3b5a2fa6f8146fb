import Derived.Test.Qxb6615205aGuards
namespace Go.Proofs.Qxb6615205a
open Go.RowKit

/-! ### a new group -/
/-- w2 is w and one new group at the end, unmarked -/
def NewGrp (w w2 : World) : Prop := ∃ cs, w2 = w.alloc (.cells cs 54) ∧ cs[4]? = some (.bool false)

theorem newGroup_any (name : ByteArray) (w : World) :
    Calls Try.prog 15 #[.string name] w fun e w' => e = .returned (.pointer (some ⟨w.heap.size, 0, none⟩)) ∧ NewGrp w w' := by
  go_enter Try.func15, Try.ntmps15
  go_wp2
  go_ret
  exact ⟨rfl, _, rfl, rfl⟩

/-! ### makeGroups -/
theorem Try.info41 : (Try.prog.info? 41).map (fun i => (i.zero, i.size, i.bytes)) = some (some (.pointer none), 1, 8) := by kernel_rfl

/-- group i behind the builder's block B -/
abbrev grp (B i : Nat) : Value := .pointer (some ⟨B + 2 + i, 0, none⟩)

/-- the groups made so far: the row at B + 1, group i at B + 2 + i, its mark as ch says -/
structure Grps (w : World) (B n k : Nat) (ch : Nat → Bool) : Prop where
  row : ∃ f, w.rowIs (B + 1) 41 n f ∧ ∀ i, i < k → f i = grp B i
  mark : ∀ i, i < k → w.cell? ⟨B + 2 + i, 4, none⟩ = some (.bool (ch i)) ∧ w.frozen? ⟨B + 2 + i, 4, none⟩ = false
  size : B + 2 + k ≤ w.heap.size

theorem grps_start (w : World) (B n : Nat) (ch : Nat → Bool) (h : w.heap.size = B + 1) : Grps (w.alloc (.cells (madeCells #[.pointer none] n) 41)) B n 0 ch := by
  have := World.rowIs_made w (.pointer none) n 41
  rw [h] at this
  exact ⟨⟨_, this, fun i hi => by omega⟩, fun i hi => by omega, by simp [h]⟩

theorem Grps.step {w : World} {B n k : Nat} {ch : Nat → Bool} (h : Grps w B n k ch) (hs : w.heap.size = B + 2 + k) {w2 : World} (hg : NewGrp w w2) (hch : ch k = false) :
    Grps (w2.setCell ⟨B + 1, k, none⟩ (grp B k)) B n (k + 1) ch := by
  obtain ⟨⟨f, hf, hfi⟩, hm, _⟩ := h
  obtain ⟨cs, rfl, hc⟩ := hg
  refine ⟨⟨_, (hf.alloc _).set k _, fun i hi => ?_⟩, fun i hi => ?_, by simp [hs]; omega⟩
  · by_cases e : i = k
    · subst e; simp
    · rw [if_neg e]; exact hfi i (by omega)
  · have hne : (⟨B + 1, k, none⟩ : Addr) ≠ ⟨B + 2 + i, 4, none⟩ := by
      intro e
      have := congrArg Addr.block e
      simp at this
      omega
    have hfb : ((w.alloc (.cells cs 54)).setCell ⟨B + 1, k, none⟩ (grp B k)).heap[B + 2 + i]? = (w.alloc (.cells cs 54)).heap[B + 2 + i]? := Deep.blk_setCell_other _ _ _ _ (by simp; omega)
    rw [World.cell?_of_block (a := ⟨B + 2 + i, 4, none⟩) hfb, World.frozen?_of_block (a := ⟨B + 2 + i, 4, none⟩) hfb]
    by_cases e : i = k
    · subst e
      have hb : (w.alloc (.cells cs 54)).heap[B + 2 + i]? = some (.cells cs 54 (0, 0)) := by
        have := Deep.blk_alloc_new w (.cells cs 54)
        rwa [hs] at this
      simp [World.cell?, World.frozen?, hb, hc, hch]
    · have hb : (w.alloc (.cells cs 54)).heap[B + 2 + i]? = w.heap[B + 2 + i]? := Deep.blk_alloc_lt _ _ _ (by omega)
      rw [World.cell?_of_block (a := ⟨B + 2 + i, 4, none⟩) hb, World.frozen?_of_block (a := ⟨B + 2 + i, 4, none⟩) hb]
      exact hm i (by omega)

set_option maxHeartbeats 1000000 in
set_option maxRecDepth 100000 in
theorem groups_any (a : Option Addr) (n c : Nat) (s : Nat → ByteArray) (B : Nat) (w : World) (hn : n ≤ 65536) (hs : Strs w a n s) (hB : w.heap.size = B + 1) :
    Calls Try.prog 8 #[.slice a n c] w fun e w' => e = .returned (.slice (some ⟨B + 1, 0, none⟩) n n) ∧ Grps w' B n n (fun _ => false) ∧ w'.heap.size = B + 2 + n ∧ Below (B + 1) w w' := by
  have HS := hid hs
  have hmk := run_make_row' (P := Try.prog) 33 41 (.pointer none) 8 Try.underlying33 Try.info41 rfl .i64 .i64 n (by omega) (by omega)
  have H0 := hid (grps_start w B n (fun _ => false) hB)
  clear hs
  go_enter Try.func8, Try.ntmps8
  go_wp2
  go_loopw [4] (fun i wr => ∃ k : Nat, k ≤ n ∧ i = .int .i64 k ∧ Below (B + 1) w wr ∧ Grps wr B n k (fun _ => false) ∧ wr.heap.size = B + 2 + k) (fun i _ => n - (intOf i).toNat)
  case atStart => exact ⟨0, Nat.zero_le _, rfl, (Below.refl _ _).alloc (by omega) _, H0.out, by simp; omega⟩
  case round =>
    obtain ⟨k, hk, rfl, hbel, hG, hsz⟩ := hrel
    have HG := hid hG
    have HZ := hid hsz
    by_cases hlt : k < n
    · obtain ⟨b, off, ea, lt, hc⟩ := HS.out.below hbel (by omega) k hlt
      subst ea
      have i1 : (k : Int) < (n : Int) := by omega
      have hlt2 : B + 1 < wr.heap.size := by omega
      clear hG hmk hsz
      go_wp2_with fail
      refine (newGroup_any (s k) _).mono ?_
      rintro e w2 ⟨rfl, hng⟩
      have HN := hid (HG.out.step HZ.out hng rfl)
      rw [HZ.out]
      obtain ⟨⟨f, hf, _⟩, _, _⟩ := HG.out
      have hng' := hng
      obtain ⟨cs, ew, hcs⟩ := hng'
      have hz2 : w2.heap.size = B + 3 + k := by rw [ew]; simp [HZ.out]; omega
      have c1 : w2.cell? ⟨B + 1, k, none⟩ = some (f k) := by rw [ew]; exact (hf.alloc (.cells cs 54)).cell hlt
      have c2 : w2.frozen? ⟨B + 1, k, none⟩ = false := by rw [ew]; exact (hf.alloc (.cells cs 54)).frozen k
      have hb2 : Below (B + 1) w w2 := by rw [ew]; exact hbel.alloc (by omega) _
      clear hf hcs ew hng
      go_wp2
      go_roundw
      case rel => exact ⟨k + 1, by omega, by go_num, hb2.setCell (by simp) _, HN.out, by simp [hz2]; omega⟩
      case measure => simp [intOf]; omega
    · have e : k = n := by omega
      subst e
      clear hG hmk hsz
      go_wp2
      go_ret
      exact ⟨rfl, HG.out, HZ.out, hbel⟩
end Go.Proofs.Qxb6615205a
