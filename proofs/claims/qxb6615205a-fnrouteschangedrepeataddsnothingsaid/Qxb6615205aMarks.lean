/-
  routesChanged walked, and the three readers.
-/
import Derived.Test.Qxb6615205aGroups
import Derived.Maps.AppendAt
namespace Go.Proofs.Qxb6615205a
open Go.RowKit

/-- the builder at B stands with the list L: its field holds v -/
structure RS (w : World) (B n : Nat) (L : List Nat) (v : Value) : Prop where
  fld : w.cell? ⟨B, 7, none⟩ = some v
  fro : w.frozen? ⟨B, 7, none⟩ = false
  own : w.ownsRow (B + 2 + n) 41 1 v L.length (L.map (grp B))
  grps : Grps w B n n (fun i => decide (i ∈ L))

/-- what a call of routesChanged leaves -/
def Did (w w' : World) (B n : Nat) (L' : List Nat) (v : Value) : Prop :=
  ∃ v', RS w' B n L' v' ∧ Below B w w' ∧ (∀ s, B + 2 + n ≤ s → s < w.heap.size → v.ownBlock ≠ some s → w'.heap[s]? = w.heap[s]? ∧ v'.ownBlock ≠ some s)

theorem grownBy_set (w : World) (a : Addr) (v : Value) : w.grownBy (w.setCell a v) (some a.block) :=
  ⟨rfl, rfl, rfl, by simp, fun k _ h => Deep.blk_setCell_other _ _ _ _ (fun e => h (by rw [e]))⟩

theorem RS.v_block {w : World} {B n : Nat} {L : List Nat} {v : Value} (h : RS w B n L v) (x : Nat) (hx : x < B + 2 + n) : v.ownBlock = none ∨ v.ownBlock ≠ some x := by
  rcases e : v.ownBlock with _ | k
  · exact .inl rfl
  · right
    intro e2
    cases e2
    have := (h.own.lt _ e).1
    omega

/-- behind the mark and the new one-cell row -/
theorem RS.mid {w : World} {B n : Nat} {L : List Nat} {v : Value} (h : RS w B n L v) {i : Nat} (hi : i < n) (o : Obj) :
    ((w.setCell ⟨B + 2 + i, 4, none⟩ (.bool true)).alloc o).ownsRow (B + 2 + n) 41 1 v L.length (L.map (grp B)) :=
  (h.own.kept (grownBy_set _ _ _) (h.v_block (B + 2 + i) (by omega))).alloc _

theorem RS.fld3 {w w3 : World} {B n : Nat} {L : List Nat} {v : Value} (h : RS w B n L v) {i : Nat} (o : Obj)
    (hg : ((w.setCell ⟨B + 2 + i, 4, none⟩ (.bool true)).alloc o).grownBy w3 v.ownBlock) : w3.cell? ⟨B, 7, none⟩ = some v ∧ w3.frozen? ⟨B, 7, none⟩ = false := by
  have hsz := h.grps.size
  have hB3 : w3.heap[B]? = w.heap[B]? := by
    rw [hg.block B (by rw [Deep.nblk_alloc, Deep.nblk_setCell]; omega) (fun e => by rcases h.v_block B (by omega) with e2 | e2 <;> simp_all), Deep.blk_alloc_lt _ _ _ (by rw [Deep.nblk_setCell]; omega), Deep.blk_setCell_other _ _ _ _ (by simp; omega)]
  exact ⟨(World.cell?_of_block (a := ⟨B, 7, none⟩) hB3).trans h.fld, (World.frozen?_of_block (a := ⟨B, 7, none⟩) hB3).trans h.fro⟩

theorem RS.done {w w3 : World} {B n : Nat} {L : List Nat} {v : Value} (h : RS w B n L v) {i g cap : Nat} (hi : i < n) (hnew : i ∉ L) (o : Obj)
    (hown : w3.ownsRow (B + 2 + n) 41 1 (.slice (some ⟨g, 0, none⟩) (L.length + 1) cap) (L.length + 1) (L.map (grp B) ++ [grp B i]))
    (hg : ((w.setCell ⟨B + 2 + i, 4, none⟩ (.bool true)).alloc o).grownBy w3 v.ownBlock) (hat : v.ownBlock = some g ∨ g = w.heap.size + 1) :
    Did w (w3.setCell ⟨B, 7, none⟩ (.slice (some ⟨g, 0, none⟩) (L.length + 1) cap)) B n (addOnce L i) v := by
  have hsz := h.grps.size
  obtain ⟨⟨f, hf, hfi⟩, hm, _⟩ := h.grps
  -- blocks
  have hb : ∀ k, k < w.heap.size → k ≠ B → k ≠ B + 2 + i → v.ownBlock ≠ some k → (w3.setCell ⟨B, 7, none⟩ (.slice (some ⟨g, 0, none⟩) (L.length + 1) cap)).heap[k]? = w.heap[k]? := by
    intro k hk h1 h2 h3
    rw [Deep.blk_setCell_other _ _ _ _ h1, hg.block k (by rw [Deep.nblk_alloc, Deep.nblk_setCell]; omega) (fun e => h3 e.symm), Deep.blk_alloc_lt _ _ _ (by rw [Deep.nblk_setCell]; omega), Deep.blk_setCell_other _ _ _ _ h2]
  have hv : ∀ x, x < B + 2 + n → v.ownBlock ≠ some x := fun x hx => by
    rcases h.v_block x hx with e | e
    · rw [e]; simp
    · exact e
  have hs3 : w.heap.size + 1 ≤ w3.heap.size := by
    have := hg.size
    rw [Deep.nblk_alloc, Deep.nblk_setCell] at this
    exact this
  -- the builder's cell in w3
  have hB3 : w3.heap[B]? = w.heap[B]? := by
    rw [hg.block B (by rw [Deep.nblk_alloc, Deep.nblk_setCell]; omega) (fun e => hv B (by omega) e.symm), Deep.blk_alloc_lt _ _ _ (by rw [Deep.nblk_setCell]; omega), Deep.blk_setCell_other _ _ _ _ (by simp; omega)]
  have hcB : w3.cell? ⟨B, 7, none⟩ = some v := (World.cell?_of_block (a := ⟨B, 7, none⟩) hB3).trans h.fld
  have hgB : B + 2 + n ≤ g := by
    have := (hown.lt g rfl).1
    exact this
  -- the mark
  have hmk1 : (w.setCell ⟨B + 2 + i, 4, none⟩ (.bool true)).cell? ⟨B + 2 + i, 4, none⟩ = some (.bool true) := World.cell?_setCell_same _ _ _ (hm i hi).1
  have hmb : (w3.setCell ⟨B, 7, none⟩ (.slice (some ⟨g, 0, none⟩) (L.length + 1) cap)).heap[B + 2 + i]? = (w.setCell ⟨B + 2 + i, 4, none⟩ (.bool true)).heap[B + 2 + i]? := by
    rw [Deep.blk_setCell_other _ _ _ _ (by simp; omega), hg.block (B + 2 + i) (by rw [Deep.nblk_alloc, Deep.nblk_setCell]; omega) (fun e => hv (B + 2 + i) (by omega) e.symm), Deep.blk_alloc_lt _ _ _ (by rw [Deep.nblk_setCell]; omega)]
  refine ⟨.slice (some ⟨g, 0, none⟩) (L.length + 1) cap, ⟨World.cell?_setCell_same _ _ _ hcB, ?_, ?_, ⟨?_, ?_, ?_⟩⟩, ⟨?_, ?_, ?_, ?_, ?_⟩, ?_⟩
  · have : w3.frozen? ⟨B, 7, none⟩ = false := (World.frozen?_of_block (a := ⟨B, 7, none⟩) hB3).trans h.fro
    simpa using this
  · rw [addOnce_new hnew]
    simp only [List.length_append, List.map_append, List.map_cons, List.map_nil, List.length_cons, List.length_nil]
    exact hown.kept (grownBy_set _ _ _) (.inr (by simp [Value.ownBlock]; omega))
  · exact ⟨f, hf.of_block (hb (B + 1) (by omega) (by omega) (by omega) (hv _ (by omega))), hfi⟩
  · intro x hx
    by_cases e : x = i
    · subst e
      rw [World.cell?_of_block (a := ⟨B + 2 + x, 4, none⟩) hmb, World.frozen?_of_block (a := ⟨B + 2 + x, 4, none⟩) hmb, hmk1]
      refine ⟨by simp [mem_addOnce], ?_⟩
      simpa using (hm x hx).2
    · have := hb (B + 2 + x) (by omega) (by omega) (by omega) (hv _ (by omega))
      rw [World.cell?_of_block (a := ⟨B + 2 + x, 4, none⟩) this, World.frozen?_of_block (a := ⟨B + 2 + x, 4, none⟩) this]
      refine ⟨?_, (hm x hx).2⟩
      rw [(hm x hx).1]
      simp [mem_addOnce, e]
  · rw [Deep.nblk_setCell]; omega
  · exact hg.os.trans rfl
  · exact hg.tape.trans rfl
  · exact hg.output.trans rfl
  · rw [Deep.nblk_setCell]; omega
  · intro k hk
    exact hb k (by omega) (by omega) (by omega) (hv _ (by omega))
  · intro s hs1 hs2 hs3'
    refine ⟨hb s hs2 (by omega) (by omega) hs3', ?_⟩
    intro e
    simp only [Value.ownBlock, Option.some.injEq] at e
    rcases hat with e2 | e2
    · exact hs3' (by rw [e2, e])
    · omega

theorem RS.same {w : World} {B n : Nat} {L : List Nat} {v : Value} (h : RS w B n L v) {i : Nat} (hi : i ∈ L) : Did w w B n (addOnce L i) v :=
  ⟨v, by rw [addOnce_mem hi]; exact h, Below.refl _ _, fun _ _ _ h3 => ⟨rfl, h3⟩⟩

theorem info41_ex : ∃ ti, Try.prog.info? 41 = some ti ∧ ti.zero = some (.pointer none) ∧ ti.size = 1 ∧ ti.bytes = 8 := by
  have q := Try.info41
  cases hti : Try.prog.info? 41 with
  | none => rw [hti] at q; cases q
  | some ti =>
    rw [hti] at q
    simp only [Option.map_some, Option.some.injEq, Prod.mk.injEq] at q
    exact ⟨ti, rfl, q.1, q.2.1, q.2.2⟩

set_option maxHeartbeats 1000000 in
set_option maxRecDepth 100000 in
theorem mark_any (B n i : Nat) (L : List Nat) (v : Value) (w : World) (h : RS w B n L v) (hi : i < n) (hL : L.length ≤ 65536) :
    Calls Try.prog 16 #[.pointer (some ⟨B, 0, none⟩), grp B i] w fun e w' => e = .returned (.tuple #[]) ∧ Did w w' B n (addOnce L i) v := by
  have H := hid h
  obtain ⟨c1, c2⟩ := h.grps.mark i hi
  have c3 := h.fld
  have c4 := h.fro
  have hsz := h.grps.size
  have l1 : B < w.heap.size := by omega
  have HZ := hid hsz
  clear h hsz
  by_cases hm : i ∈ L
  · simp only [hm, decide_true] at c1
    go_enter Try.func16, Try.ntmps16
    go_wp2
    go_end0
    exact ⟨rfl, H.out.same hm⟩
  · simp only [hm, decide_false] at c1
    obtain ⟨ti, hti, hz0, hz1, hz2⟩ : ∃ ti, Try.prog.info? 41 = some ti ∧ ti.zero = some (.pointer none) ∧ ti.size = 1 ∧ ti.bytes = 8 := info41_ex
    have HO := hid (H.out.mid hi (.cells #[grp B i] 41))
    have c5 : (w.setCell ⟨B + 2 + i, 4, none⟩ (.bool true)).cell? ⟨B, 7, none⟩ = some v := (World.cell?_setCell_other _ _ _ _ (by intro e; have := congrArg Addr.block e; simp at this; omega)).trans c3
    have HW := hid (show ∀ j u, [grp B i][j]? = some u → ((w.setCell ⟨B + 2 + i, 4, none⟩ (.bool true)).alloc (.cells #[grp B i] 41)).cell? ((⟨w.heap.size, 0, none⟩ : Addr).add j) = some u by
      have := cell_one_new (w.setCell ⟨B + 2 + i, 4, none⟩ (.bool true)) (grp B i) 41
      rwa [Deep.nblk_setCell] at this)
    have hb63 : L.length + 1 ≤ maxLen := by unfold maxLen; omega
    have hbyt : (L.length + 1) * 8 ≤ 140737488355328 := by omega
    have hbas : B + 2 + n ≤ ((w.setCell ⟨B + 2 + i, 4, none⟩ (.bool true)).alloc (.cells #[grp B i] 41)).heap.size := by simp; exact Nat.le_succ_of_le HZ.out
    go_enter Try.func16, Try.ntmps16
    go_wp2_with (at_builtin; go_must (refine wpList_append_lies _ rfl _ _ _ rfl (B + 2 + n) 41 ti (.pointer none) 1 8 Try.underlying33 hti hz0 hz1 hz2 rfl (by omega) v L.length (L.map (grp B)) rfl HO.out ⟨w.heap.size, 0, none⟩ 1 1 [grp B i] rfl rfl HW.out (by intro u hu; simp at hu; subst hu; rfl) (by omega) hb63 hbyt hbas (w.heap.size + 1) (by simp) ?_; intro g cap w3 hown hgr hat hlt; obtain ⟨d1, d2⟩ := H.out.fld3 _ hgr; have HD := hid (H.out.done hi hm _ hown hgr hat); clear hown hgr hat HW HO))
    go_end0
    exact ⟨rfl, HD.out⟩

theorem mark9_any (B n i : Nat) (L : List Nat) (v : Value) (w : World) (h : RS w B n L v) (hi : i < n) (hL : L.length ≤ 65536) :
    Calls Try.prog 9 #[.pointer (some ⟨B, 0, none⟩), grp B i] w fun e w' => e = .returned (.tuple #[]) ∧ Did w w' B n (addOnce L i) v := by
  have H := hid h
  clear h
  go_enter Try.func9, Try.ntmps9
  go_wp2_with fail
  refine (mark_any B n i L v _ H.out hi hL).mono ?_
  rintro e w1 ⟨rfl, hd⟩
  go_wp2
  go_end0
  exact ⟨rfl, hd⟩

theorem RS.slice {w : World} {B n : Nat} {L : List Nat} {v : Value} (h : RS w B n L v) : ∃ a cap, v = .slice a L.length cap := by
  rcases h.own with ⟨_, ⟨e, e2⟩ | ⟨g, cap, cur, e, _⟩⟩
  · rw [e2]; exact ⟨_, _, e⟩
  · exact ⟨_, _, e⟩

theorem count_any (B n : Nat) (L : List Nat) (v : Value) (w : World) (h : RS w B n L v) :
    Calls Try.prog 10 #[.pointer (some ⟨B, 0, none⟩)] w fun e w' => e = .returned (.int .i64 L.length) ∧ w = w' := by
  obtain ⟨a, cap, rfl⟩ := h.slice
  have c3 := h.fld
  clear h
  go_enter Try.func10, Try.ntmps10
  go_wp2
  go_ret
  exact ⟨rfl, rfl⟩

theorem at_any (B n p i : Nat) (L : List Nat) (v : Value) (w : World) (h : RS w B n L v) (hp : L[p]? = some i) :
    Calls Try.prog 11 #[.pointer (some ⟨B, 0, none⟩), .int .i64 p] w fun e w' => e = .returned (grp B i) ∧ w = w' := by
  have hlt : p < L.length := by
    rcases Nat.lt_or_ge p L.length with h1 | h1
    · exact h1
    · rw [List.getElem?_eq_none h1] at hp; cases hp
  have c3 := h.fld
  obtain ⟨g, cap, e, c4⟩ : ∃ g cap, v = .slice (some ⟨g, 0, none⟩) L.length cap ∧ w.cell? ⟨g, p, none⟩ = some (grp B i) := by
    have ho := h.own
    rcases h.own with ⟨_, ⟨e, e2⟩ | ⟨g, cap, cur, e, _⟩⟩
    · omega
    · subst e
      refine ⟨g, cap, rfl, ?_⟩
      rw [ho.cellAt p (by omega), List.getElem?_map, hp]
      rfl
  subst e
  clear h
  go_enter Try.func11, Try.ntmps11
  go_wp2
  go_ret
  exact ⟨rfl, rfl⟩

theorem is_any (B n i : Nat) (L : List Nat) (v : Value) (w : World) (h : RS w B n L v) (hi : i < n) :
    Calls Try.prog 12 #[grp B i] w fun e w' => e = .returned (.bool (decide (i ∈ L))) ∧ w = w' := by
  obtain ⟨c1, c2⟩ := h.grps.mark i hi
  clear h
  go_enter Try.func12, Try.ntmps12
  go_wp2
  go_ret
  exact ⟨rfl, rfl⟩
end Go.Proofs.Qxb6615205a
