/-
  pending, notify, ended and the readers of a placement walked.
-/
import Derived.Test.Qxb6615186aNewPl
import Derived.Test.Qxb6615186aLocks
import Derived.Conc.MuLone
import Derived.Conc.SmallLaws
import Derived.Defers
namespace Go.Proofs.Qxb6615186a
open Go.RowKit Go.MuLone

/-! ### pending -/
theorem pending_any (x : Pl) (w : World) :
    Calls Try.prog 34 #[.agg #[.int .i64 x.ch, .bool x.kn, .bool x.un, .int .i64 x.fi, .bool x.pl, .bool x.cb]] w fun e w' => e = .returned (.bool (!x.kn && !x.un)) ∧ w' = w.alloc (.cells #[.int .i64 x.ch, .bool x.kn, .bool x.un, .int .i64 x.fi, .bool x.pl, .bool x.cb] 57) := by
  cases hk : x.kn <;> cases hu : x.un
  all_goals
    clear hk hu
    go_enter Try.func34, Try.ntmps34
    go_wp2
    go_ret
    exact ⟨rfl, rfl⟩

/-! ### notify -/
/-- the world with channel h closed -/
def shutCh (w : World) (h : Nat) : World := { w with heap := w.heap.setIfInBounds h (.chan 0 #[] true 0 0 false) }
theorem shutCh_size (w : World) (h : Nat) : (shutCh w h).heap.size = w.heap.size := by simp [shutCh]
theorem shutCh_below (w : World) (h : Nat) : Below 0 w (shutCh w h) := ⟨rfl, rfl, rfl, Nat.le_of_eq (shutCh_size w h).symm, fun k hk => absurd hk (Nat.not_lt_zero k)⟩
theorem shutCh_block (w : World) (h k : Nat) (hk : k ≠ h) : (shutCh w h).heap[k]? = w.heap[k]? := by
  simp only [shutCh, Array.getElem?_setIfInBounds]
  rw [if_neg (by omega)]
theorem shutCh_cell (w : World) (h k o : Nat) (hk : k ≠ h) : (shutCh w h).cell? ⟨k, o, none⟩ = w.cell? ⟨k, o, none⟩ := World.cell?_of_block (w := w) (shutCh_block w h k hk)
theorem shutCh_frozen (w : World) (h k o : Nat) (hk : k ≠ h) : (shutCh w h).frozen? ⟨k, o, none⟩ = w.frozen? ⟨k, o, none⟩ := World.frozen?_of_block (w := w) (shutCh_block w h k hk)

set_option maxHeartbeats 400000 in
theorem notify_any (c h : Nat) (w : World) (h4 : w.cell? ⟨c, 4, none⟩ = some (.chan (some h))) (z4 : w.frozen? ⟨c, 4, none⟩ = false) (hh : w.heap[h]? = some (.chan 0 #[] false 0 0 false)) (hc : c < w.heap.size) (hne : c ≠ h) (S : Nat) (hS : w.heap.size = S) :
    Calls Try.prog 35 #[.pointer (some ⟨c, 0, none⟩)] w fun e w' => e = .returned (.tuple #[]) ∧ w' = ((shutCh w h).setCell ⟨c, 4, none⟩ (.chan (some S))).alloc (.chan 0 #[] false 0 0 false) := by
  subst hS
  have hcl : ∀ ats ty, (Builtin.close_ ats ty #[.chan (some h)]).run Try.prog w = .ok (.tuple #[]) (shutCh w h) := fun ats ty => run_close_open (P := Try.prog) (w := w) ats ty hh
  have hmc := run_makeChan41
  have g4 : (shutCh w h).cell? ⟨c, 4, none⟩ = some (.chan (some h)) := (shutCh_cell w h c 4 hne).trans h4
  have y4 : (shutCh w h).frozen? ⟨c, 4, none⟩ = false := (shutCh_frozen w h c 4 hne).trans z4
  have hs := shutCh_size w h
  go_enter Try.func35, Try.ntmps35
  go_wp2
  go_end0
  exact ⟨rfl, rfl⟩

/-! ### ended -/
/-- is the place pending -/
def pend (x : Pl) : Bool := !x.kn && !x.un
/-- the places behind ended(i) -/
def endAt (q : Nat → Pl) (i : Nat) : Nat → Pl := fun j => if j = i ∧ pend (q i) = true then { q i with un := true } else q j

theorem Placed.cells {w : World} {c g h n : Nat} {sens : Int} {q : Nat → Pl} (P : Placed w c g h n sens q) :
    w.cell? ⟨c, 0, none⟩ = some (.int .i32 0) ∧ w.cell? ⟨c, 2, none⟩ = some (.int .i64 sens) ∧ w.cell? ⟨c, 3, none⟩ = some (.slice (some ⟨g, 0, none⟩) n n) ∧ w.cell? ⟨c, 4, none⟩ = some (.chan (some h)) ∧
    (∀ i, w.frozen? ⟨c, i, none⟩ = false) ∧ c < w.heap.size ∧ g < w.heap.size ∧ h < w.heap.size ∧ c ≠ g ∧ c ≠ h ∧ g ≠ h := by
  have hc := P.obj
  have hg := P.row
  have hh := P.chan
  obtain ⟨f, ⟨cs, hb, _, _⟩, _⟩ := hg
  refine ⟨by simp [World.cell?, hc], by simp [World.cell?, hc], by simp [World.cell?, hc], by simp [World.cell?, hc], fun i => by simp [World.frozen?, hc], ?_, ?_, ?_, ?_, ?_, ?_⟩
  · exact (Array.getElem?_eq_some_iff.1 hc).1
  · exact (Array.getElem?_eq_some_iff.1 hb).1
  · exact (Array.getElem?_eq_some_iff.1 hh).1
  · intro e; subst e; rw [hc] at hb; simp at hb
  · intro e; subst e; rw [hc] at hh; simp at hh
  · intro e; subst e; rw [hb] at hh; simp at hh

/-- OF THE OLD BLOCKS ALL BUT c, g, h ARE AS THEY WERE -/
structure Apart (c g h : Nat) (w w' : World) : Prop where
  os : w'.os = w.os
  tape : w'.tape = w.tape
  output : w'.output = w.output
  size : w.heap.size ≤ w'.heap.size
  block : ∀ k, k < w.heap.size → k ≠ c → k ≠ g → k ≠ h → w'.heap[k]? = w.heap[k]?

theorem Apart.below {c g h : Nat} {w w' : World} (H : Apart c g h w w') {B : Nat} (hB : B ≤ w.heap.size) (hc : B ≤ c) (hg : B ≤ g) (hh : B ≤ h) : Below B w w' :=
  ⟨H.os, H.tape, H.output, H.size, fun k hk => H.block k (by omega) (by omega) (by omega) (by omega)⟩

theorem blk_set {w : World} {c t : Nat} {arr : Array Value} {fr : Nat × Nat} (h : w.heap[c]? = some (.cells arr t fr)) (i : Nat) (v : Value) :
    (w.setCell ⟨c, i, none⟩ v).heap[c]? = some (.cells (arr.setIfInBounds i v) t fr) := by
  simp [World.setCell, Array.getElem?_modify, h]

theorem PlRow.mark {w : World} {g t n : Nat} {q : Nat → Pl} (h : PlRow w g t n n q) (i : Nat) (hp : pend (q i) = true) :
    PlRow (w.setCell ⟨g, i * 6 + 2, none⟩ (.bool true)) g t n n (endAt q i) := by
  obtain ⟨f, hf, hq⟩ := h
  refine ⟨_, hf.set (i * 6 + 2) (.bool true), fun j hj k hk => ?_⟩
  by_cases e : j = i
  · subst e
    have hqj := hq j hj k hk
    match k, hk with
    | 0, _ => rw [if_neg (by omega), hqj]; simp [plv, endAt, hp]
    | 1, _ => rw [if_neg (by omega), hqj]; simp [plv, endAt, hp]
    | 2, _ => rw [if_pos rfl]; simp [plv, endAt, hp]
    | 3, _ => rw [if_neg (by omega), hqj]; simp [plv, endAt, hp]
    | 4, _ => rw [if_neg (by omega), hqj]; simp [plv, endAt, hp]
    | 5, _ => rw [if_neg (by omega), hqj]; simp [plv, endAt, hp]
  · rw [if_neg (by omega), hq j hj k hk]
    simp [endAt, e]

theorem endAt_no (q : Nat → Pl) (i : Nat) (hp : pend (q i) = false) : endAt q i = q := by
  funext j
  simp [endAt, hp]

/-- the world at the call of notify -/
def midW (w : World) (c g i : Nat) (o : Obj) : World := ((w.setCell ⟨c, 0, none⟩ (.int .i32 1)).setCell ⟨g, i * 6 + 2, none⟩ (.bool true)).alloc o

theorem midW_size (w : World) (c g i : Nat) (o : Obj) : (midW w c g i o).heap.size = w.heap.size + 1 := by simp [midW]

theorem midW_c {w : World} {c g h n : Nat} {sens : Int} {q : Nat → Pl} (P : Placed w c g h n sens q) (i : Nat) (o : Obj) :
    (midW w c g i o).heap[c]? = some (.cells #[.int .i32 1, .int .u32 0, .int .i64 sens, .slice (some ⟨g, 0, none⟩) n n, .chan (some h)] 66 (0, 0)) := by
  obtain ⟨_, _, _, _, _, lc, lg, lh, ncg, nch, ngh⟩ := P.cells
  unfold midW
  rw [Deep.blk_alloc_lt _ _ _ (by simp; omega), Deep.blk_setCell_other _ _ _ _ (by simpa using ncg), blk_set P.obj]
  rfl

theorem midW_h {w : World} {c g h n : Nat} {sens : Int} {q : Nat → Pl} (P : Placed w c g h n sens q) (i : Nat) (o : Obj) :
    (midW w c g i o).heap[h]? = some (.chan 0 #[] false 0 0 false) := by
  obtain ⟨_, _, _, _, _, lc, lg, lh, ncg, nch, ngh⟩ := P.cells
  unfold midW
  rw [Deep.blk_alloc_lt _ _ _ (by simp; omega), Deep.blk_setCell_other _ _ _ _ (by simpa using fun e => ngh e.symm), Deep.blk_setCell_other _ _ _ _ (by simpa using fun e => nch e.symm)]
  exact P.chan

/-- the world behind ended, where the place was pending -/
def endW (w : World) (c g h i : Nat) (o : Obj) : World :=
  (((shutCh (midW w c g i o) h).setCell ⟨c, 4, none⟩ (.chan (some (w.heap.size + 1)))).alloc (.chan 0 #[] false 0 0 false)).setCell ⟨c, 0, none⟩ (.int .i32 0)

theorem endW_placed {w : World} {c g h n : Nat} {sens : Int} {q : Nat → Pl} (P : Placed w c g h n sens q) (i : Nat) (hp : pend (q i) = true) (o : Obj) :
    Placed (endW w c g h i o) c g (w.heap.size + 1) n sens (endAt q i) ∧ Apart c g h w (endW w c g h i o) := by
  obtain ⟨_, _, _, _, _, lc, lg, lh, ncg, nch, ngh⟩ := P.cells
  have hs : (shutCh (midW w c g i o) h).heap.size = w.heap.size + 1 := by rw [shutCh_size, midW_size]
  have hcc : (shutCh (midW w c g i o) h).heap[c]? = some (.cells #[.int .i32 1, .int .u32 0, .int .i64 sens, .slice (some ⟨g, 0, none⟩) n n, .chan (some h)] 66 (0, 0)) := (shutCh_block _ _ _ nch).trans (midW_c P i o)
  refine ⟨⟨?_, ?_, ?_⟩, ?_⟩
  · unfold endW
    refine (blk_set (arr := #[.int .i32 1, .int .u32 0, .int .i64 sens, .slice (some ⟨g, 0, none⟩) n n, .chan (some (w.heap.size + 1))]) (t := 66) (fr := (0, 0)) ?_ 0 _).trans rfl
    rw [Deep.blk_alloc_lt _ _ _ (by simp [hs]; omega), blk_set hcc]
    rfl
  · unfold endW
    refine (PlRow.of_block (w := (w.setCell ⟨c, 0, none⟩ (.int .i32 1)).setCell ⟨g, i * 6 + 2, none⟩ (.bool true)) ?_ ?_)
    · exact (P.row.of_block (Deep.blk_setCell_other _ _ _ _ (by simpa using fun e => ncg e.symm))).mark i hp
    · rw [Deep.blk_setCell_other _ _ _ _ (by simpa using fun e => ncg e.symm), Deep.blk_alloc_lt _ _ _ (by simp [hs]; omega), Deep.blk_setCell_other _ _ _ _ (by simpa using fun e => ncg e.symm), shutCh_block _ _ _ ngh]
      unfold midW
      rw [Deep.blk_alloc_lt _ _ _ (by simp; omega)]
  · unfold endW
    rw [Deep.blk_setCell_other _ _ _ _ (by simp; omega)]
    have := Deep.blk_alloc_new ((shutCh (midW w c g i o) h).setCell ⟨c, 4, none⟩ (.chan (some (w.heap.size + 1)))) (.chan 0 #[] false 0 0 false)
    rwa [show ((shutCh (midW w c g i o) h).setCell ⟨c, 4, none⟩ (.chan (some (w.heap.size + 1)))).heap.size = w.heap.size + 1 by simp [hs]] at this
  · have hb : Below 0 w (endW w c g h i o) := (((((((Below.refl 0 w).setCell (Nat.zero_le _) _).setCell (Nat.zero_le _) _).alloc (Nat.zero_le _) _).trans (shutCh_below _ _)).setCell (Nat.zero_le _) _).alloc (Nat.zero_le _) _).setCell (Nat.zero_le _) _
    refine ⟨hb.os, hb.tape, hb.output, hb.size, fun k hk k1 k2 k3 => ?_⟩
    unfold endW
    rw [Deep.blk_setCell_other _ _ _ _ (by simpa using k1), Deep.blk_alloc_lt _ _ _ (by simp [hs]; omega), Deep.blk_setCell_other _ _ _ _ (by simpa using k1), shutCh_block _ _ _ k3]
    unfold midW
    rw [Deep.blk_alloc_lt _ _ _ (by simp; omega), Deep.blk_setCell_other _ _ _ _ (by simpa using k2), Deep.blk_setCell_other _ _ _ _ (by simpa using k1)]

set_option maxHeartbeats 1000000 in
set_option maxRecDepth 100000 in
theorem ended_yes (c g h n : Nat) (sens : Int) (q : Nat → Pl) (i : Nat) (hi : i < n) (w : World) (P : Placed w c g h n sens q) (hp : pend (q i) = true) :
    Calls Try.prog 28 #[.pointer (some ⟨c, 0, none⟩), .int .i64 i] w fun e w' => e = .returned (.tuple #[]) ∧ ∃ o, w' = endW w c g h i o := by
  obtain ⟨k0, k2, k3, k4, kz, lc, lg, lh, ncg, nch, ngh⟩ := P.cells
  have hkn : (q i).kn = false := by simp [pend] at hp; exact hp.1
  have hun : (q i).un = false := by simp [pend] at hp; exact hp.2
  obtain ⟨p0, p1, p2, p3, p4, p5⟩ := (P.row.pls).at hi
  rw [Nat.zero_add] at p0 p1 p2 p3 p4 p5
  have z2 := P.row.frozen (i * 6 + 2)
  have i1 : (i : Int) < (n : Int) := by omega
  have pp := pending_any (q i)
  rw [hkn, hun] at pp
  rw [hkn] at p1
  rw [hun] at p2
  have PP := hid pp
  have HP := hid P
  clear hp hkn hun P pp
  go_enter_defers Try.func28, Try.ntmps28
  go_wp2_with fail
  refine (lock_free Try.muLib ⟨c, 0, none⟩ _ k0 (kz 0)).mono ?_
  rintro e w1 ⟨rfl, rfl⟩
  go_wp2_with fail
  refine (PP.out _).mono ?_
  rintro e w1 ⟨rfl, rfl⟩
  go_wp2_with fail
  have mc := midW_c HP.out i (.cells #[.int .i64 (q i).ch, .bool false, .bool false, .int .i64 (q i).fi, .bool (q i).pl, .bool (q i).cb] 57)
  have mh := midW_h HP.out i (.cells #[.int .i64 (q i).ch, .bool false, .bool false, .int .i64 (q i).fi, .bool (q i).pl, .bool (q i).cb] 57)
  have ms := midW_size w c g i (.cells #[.int .i64 (q i).ch, .bool false, .bool false, .int .i64 (q i).fi, .bool (q i).pl, .bool (q i).cb] 57)
  refine (notify_any c h (midW w c g i (.cells #[.int .i64 (q i).ch, .bool false, .bool false, .int .i64 (q i).fi, .bool (q i).pl, .bool (q i).cb] 57)) (by simp [World.cell?, mc]) (by simp [World.frozen?, mc]) mh (by omega) nch _ ms).mono ?_
  rintro e w1 ⟨rfl, hw⟩
  have hs : (shutCh (midW w c g i (.cells #[.int .i64 (q i).ch, .bool false, .bool false, .int .i64 (q i).fi, .bool (q i).pl, .bool (q i).cb] 57)) h).heap.size = w.heap.size + 1 := by rw [shutCh_size, ms]
  have l0 : w1.heap[c]? = some (.cells #[.int .i32 1, .int .u32 0, .int .i64 sens, .slice (some ⟨g, 0, none⟩) n n, .chan (some (w.heap.size + 1))] 66 (0, 0)) := by
    rw [hw, Deep.blk_alloc_lt _ _ _ (by simp [hs]; omega), blk_set ((shutCh_block _ _ _ nch).trans mc)]
    rfl
  have HW := hid hw
  clear hw mc mh ms hs
  go_wp2
  refine leaves_cons (f := 33) (args := #[.pointer (some ⟨c, 0, none⟩)]) (by simp) (by simp [go_sem]) ?_
  refine (unlock_deferred Try.muLib ⟨c, 0, none⟩ .returning _ ?_ ?_).mono ?_
  · simp [World.cell?, l0]
  · simp [World.frozen?, l0]
  rintro e u' w'' ⟨rfl, rfl, rfl⟩
  exact ⟨_, results_none rfl _ _ _, rfl, _, by rw [HW.out]; rfl⟩

/-- the world behind ended, where the place was not pending -/
def noW (w : World) (c : Nat) (o : Obj) : World := ((w.setCell ⟨c, 0, none⟩ (.int .i32 1)).alloc o).setCell ⟨c, 0, none⟩ (.int .i32 0)

theorem noW_placed {w : World} {c g h n : Nat} {sens : Int} {q : Nat → Pl} (P : Placed w c g h n sens q) (o : Obj) : Placed (noW w c o) c g h n sens q ∧ Apart c g h w (noW w c o) := by
  obtain ⟨_, _, _, _, _, lc, lg, lh, ncg, nch, ngh⟩ := P.cells
  refine ⟨⟨?_, ?_, ?_⟩, ?_⟩
  · unfold noW
    refine (blk_set (arr := #[.int .i32 1, .int .u32 0, .int .i64 sens, .slice (some ⟨g, 0, none⟩) n n, .chan (some h)]) (t := 66) (fr := (0, 0)) ?_ 0 _).trans rfl
    rw [Deep.blk_alloc_lt _ _ _ (by simp; omega), blk_set P.obj]
    rfl
  · unfold noW
    refine P.row.of_block ?_
    rw [Deep.blk_setCell_other _ _ _ _ (by simpa using fun e => ncg e.symm), Deep.blk_alloc_lt _ _ _ (by simp; omega), Deep.blk_setCell_other _ _ _ _ (by simpa using fun e => ncg e.symm)]
  · unfold noW
    rw [Deep.blk_setCell_other _ _ _ _ (by simpa using fun e => nch e.symm), Deep.blk_alloc_lt _ _ _ (by simp; omega), Deep.blk_setCell_other _ _ _ _ (by simpa using fun e => nch e.symm)]
    exact P.chan
  · have hb : Below 0 w (noW w c o) := ((((Below.refl 0 w).setCell (Nat.zero_le _) _).alloc (Nat.zero_le _) _)).setCell (Nat.zero_le _) _
    refine ⟨hb.os, hb.tape, hb.output, hb.size, fun k hk k1 k2 k3 => ?_⟩
    unfold noW
    rw [Deep.blk_setCell_other _ _ _ _ (by simpa using k1), Deep.blk_alloc_lt _ _ _ (by simp; omega), Deep.blk_setCell_other _ _ _ _ (by simpa using k1)]

set_option maxHeartbeats 1000000 in
set_option maxRecDepth 100000 in
theorem ended_no (c g h n : Nat) (sens : Int) (q : Nat → Pl) (i : Nat) (hi : i < n) (w : World) (P : Placed w c g h n sens q) (hp : pend (q i) = false) :
    Calls Try.prog 28 #[.pointer (some ⟨c, 0, none⟩), .int .i64 i] w fun e w' => e = .returned (.tuple #[]) ∧ ∃ o, w' = noW w c o := by
  obtain ⟨k0, k2, k3, k4, kz, lc, lg, lh, ncg, nch, ngh⟩ := P.cells
  obtain ⟨p0, p1, p2, p3, p4, p5⟩ := (P.row.pls).at hi
  rw [Nat.zero_add] at p0 p1 p2 p3 p4 p5
  have i1 : (i : Int) < (n : Int) := by omega
  have pp := pending_any (q i)
  rw [show (!(q i).kn && !(q i).un) = false from hp] at pp
  have PP := hid pp
  have HP := hid P
  clear hp P pp
  go_enter_defers Try.func28, Try.ntmps28
  go_wp2_with fail
  refine (lock_free Try.muLib ⟨c, 0, none⟩ _ k0 (kz 0)).mono ?_
  rintro e w1 ⟨rfl, rfl⟩
  go_wp2_with fail
  refine (PP.out _).mono ?_
  rintro e w1 ⟨rfl, hw⟩
  have l0 : w1.heap[c]? = some (.cells #[.int .i32 1, .int .u32 0, .int .i64 sens, .slice (some ⟨g, 0, none⟩) n n, .chan (some h)] 66 (0, 0)) := by
    rw [hw, Deep.blk_alloc_lt _ _ _ (by simp; omega), blk_set HP.out.obj]
    rfl
  have HW := hid hw
  clear hw
  go_wp2
  refine leaves_cons (f := 33) (args := #[.pointer (some ⟨c, 0, none⟩)]) (by simp) (by simp [go_sem]) ?_
  refine (unlock_deferred Try.muLib ⟨c, 0, none⟩ .returning _ ?_ ?_).mono ?_
  · simp [World.cell?, l0]
  · simp [World.frozen?, l0]
  rintro e u' w'' ⟨rfl, rfl, rfl⟩
  exact ⟨_, results_none rfl _ _ _, rfl, _, by rw [HW.out]; rfl⟩

/-- (*channelPlacement).ended(i): the place is marked where it was pending, and then the channel is a new one. -/
theorem ended_any (c g h n : Nat) (sens : Int) (q : Nat → Pl) (i : Nat) (hi : i < n) (w : World) (P : Placed w c g h n sens q) :
    Calls Try.prog 28 #[.pointer (some ⟨c, 0, none⟩), .int .i64 i] w fun e w' => e = .returned (.tuple #[]) ∧ ∃ h', Placed w' c g h' n sens (endAt q i) ∧ Apart c g h w w' ∧ (h' = h ∨ w.heap.size ≤ h') ∧ (h' != h) = pend (q i) := by
  cases hp : pend (q i) with
  | true =>
    refine (ended_yes c g h n sens q i hi w P hp).mono ?_
    rintro e w' ⟨rfl, o, rfl⟩
    obtain ⟨h1, h2⟩ := endW_placed P i hp o
    have lh := P.cells.2.2.2.2.2.2.2.1
    exact ⟨rfl, _, h1, h2, .inr (by omega), by rw [bne_iff_ne]; omega⟩
  | false =>
    refine (ended_no c g h n sens q i hi w P hp).mono ?_
    rintro e w' ⟨rfl, o, rfl⟩
    obtain ⟨h1, h2⟩ := noW_placed P o
    exact ⟨rfl, h, by rw [endAt_no q i hp]; exact h1, h2, .inl rfl, by simp⟩

theorem zzended_any (c g h n : Nat) (sens : Int) (q : Nat → Pl) (i : Nat) (hi : i < n) (w : World) (P : Placed w c g h n sens q) :
    Calls Try.prog 18 #[.pointer (some ⟨c, 0, none⟩), .int .i64 i] w fun e w' => e = .returned (.tuple #[]) ∧ ∃ h', Placed w' c g h' n sens (endAt q i) ∧ Apart c g h w w' ∧ (h' = h ∨ w.heap.size ≤ h') ∧ (h' != h) = pend (q i) := by
  have H := hid (ended_any c g h n sens q i hi w P)
  go_enter Try.func18, Try.ntmps18
  go_wp2_with fail
  refine H.out.mono ?_
  rintro e w' ⟨rfl, hw⟩
  have HW := hid hw
  clear hw
  go_wp2
  go_end0
  exact ⟨rfl, HW.out⟩

/-! ### the readers of a placement -/
theorem changed_any (c g h n : Nat) (sens : Int) (q : Nat → Pl) (w : World) (P : Placed w c g h n sens q) :
    Calls Try.prog 17 #[.pointer (some ⟨c, 0, none⟩)] w fun e w' => e = .returned (.chan (some h)) ∧ w = w' := by
  obtain ⟨k0, k2, k3, k4, kz, lc, lg, lh, ncg, nch, ngh⟩ := P.cells
  clear P
  go_enter Try.func17, Try.ntmps17
  go_wp2
  go_ret
  exact ⟨rfl, rfl⟩

theorem sensors_any (c g h n : Nat) (sens : Int) (q : Nat → Pl) (w : World) (P : Placed w c g h n sens q) :
    Calls Try.prog 20 #[.pointer (some ⟨c, 0, none⟩)] w fun e w' => e = .returned (.int .i64 sens) ∧ w = w' := by
  obtain ⟨k0, k2, k3, k4, kz, lc, lg, lh, ncg, nch, ngh⟩ := P.cells
  clear P
  go_enter Try.func20, Try.ntmps20
  go_wp2
  go_ret
  exact ⟨rfl, rfl⟩
end Go.Proofs.Qxb6615186a
