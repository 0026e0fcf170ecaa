/-
  Seat b6617097a: the walk of FnUnlinkThenAppendMovesToBack.
-/
import Derived.Test.Qxb6617097aUnlinkW
namespace Go.Proofs.Qxb6617097a
open Go.RowKit

/-- The world behind the second append: the entry at the back; the row of nodes as it was. -/
structure Moved (w : World) (N n i : Nat) (wr : World) : Prop where
  below : Below N w wr
  size : wr.heap.size = N + 3 + n
  dl : DL wr (N + 1) ((nodesB N n).eraseIdx i ++ [N + 3 + i])
  row : wr.rowIs (N + 2) 33 n (fun j => .pointer (some ⟨N + 3 + j, 0, none⟩))

theorem not_erased {N n i : Nat} (hi : i < n) : N + 3 + i ∉ (nodesB N n).eraseIdx i := by
  intro h
  obtain ⟨j, hj⟩ := List.getElem?_of_mem h
  rw [List.getElem?_eraseIdx] at hj
  have hii := nodesB_at (N := N) hi
  split at hj
  · have := (nodesB_get hj).2; omega
  · have := (nodesB_get hj).2; omega

theorem moved_of {w w2 w3 : World} {N n i : Nat} (h : Cut w N n i w2) (hd : DL w3 (N + 1) ((nodesB N n).eraseIdx i ++ [N + 3 + i])) (ht : Touch w2 w3 ((N + 3 + i) :: (N + 1) :: (nodesB N n).eraseIdx i)) : Moved w N n i w3 := by
  have hmem : ∀ b, b ∈ (N + 3 + i) :: (N + 1) :: (nodesB N n).eraseIdx i → b = N + 3 + i ∨ b = N + 1 ∨ N + 3 ≤ b := fun b hb => by
    rcases List.mem_cons.1 hb with h | hb
    · exact Or.inl h
    · rcases List.mem_cons.1 hb with h | hb
      · exact Or.inr (Or.inl h)
      · exact Or.inr (Or.inr (nodesB_mem ((List.eraseIdx_sublist _ _).subset hb)).1)
  exact ⟨h.below.trans (ht.below (fun b hb => by have := hmem b hb; omega)), by rw [ht.size]; exact h.size, hd, ht.row (fun hb => by have := hmem _ hb; omega) h.row⟩

theorem Moved.later {w wr w' : World} {N n i : Nat} (hi : i < n) (h : Moved w N n i wr) (hb : Below wr.heap.size wr w') :
    Below N w w' ∧ DL w' (N + 1) ((nodesB N n).eraseIdx i ++ [N + 3 + i]) ∧ (∀ j, j < n → w'.cell? ⟨N + 2, j, none⟩ = some (.pointer (some ⟨N + 3 + j, 0, none⟩))) := by
  have hz := h.size
  refine ⟨h.below.trans (hb.mono (by omega)), h.dl.same (fun b hbb => hb.block b ?_), fun j hj => ?_⟩
  · rcases hbb with rfl | hbb
    · omega
    · rcases List.mem_append.1 hbb with hbb | hbb
      · have := nodesB_mem ((List.eraseIdx_sublist _ _).subset hbb); omega
      · rw [List.mem_singleton] at hbb; omega
  · rw [hb.cell (p := ⟨N + 2, j, none⟩) (by show N + 2 < wr.heap.size; omega)]; exact h.row.cell hj

theorem moved_length {N n i : Nat} (hi : i < n) : ((nodesB N n).eraseIdx i ++ [N + 3 + i]).length = n - 1 + 1 := by
  rw [List.length_append, erase_length hi, List.length_singleton]

theorem moved_row {w : World} {R N n i : Nat} (hi : i < n) (h : w.ownsRow R 33 1 (.slice (some ⟨R, 0, none⟩) (n - 1 + 1) n) (n - 1 + 1) (outXs (fun j => N + 3 + j) i n ++ [.pointer (some ⟨N + 3 + i, 0, none⟩)])) (j b : Nat)
    (hj : ((nodesB N n).eraseIdx i ++ [N + 3 + i])[j]? = some b) : w.cell? ⟨R, j, none⟩ = some (.pointer (some ⟨b, 0, none⟩)) := by
  have hl : j < n - 1 + 1 := by have := (List.getElem?_eq_some_iff.1 hj).1; rwa [moved_length hi] at this
  have hlx : (outXs (fun j => N + 3 + j) i n).length = n - 1 := by
    have := h.1
    simp at this
    omega
  rw [h.cellAt j (by omega)]
  by_cases e : j < n - 1
  · rw [List.getElem?_append_left (by rw [erase_length hi]; exact e)] at hj
    rw [List.getElem?_append_left (by rw [hlx]; exact e)]
    exact outXs_at hj
  · obtain rfl : j = n - 1 := by omega
    rw [List.getElem?_append_right (by rw [erase_length hi]; exact Nat.le_refl _), erase_length hi] at hj
    rw [List.getElem?_append_right (by rw [hlx]; exact Nat.le_refl _), hlx]
    simp at hj ⊢
    exact hj

set_option maxRecDepth 100000 in
set_option maxHeartbeats 2000000 in
theorem moves_in (a : Option Addr) (n c i : Nat) (S : Nat → ByteArray) (w : World) (hn : n ≤ 65536) (hi : i < n) (hs : Strs w a n S) :
    Calls Try.prog 8 #[.slice a n c, .int .i64 i] w fun e w' => e = .returned (.bool true) ∧ Below w.heap.size w w' := by
  obtain ⟨i0, hi0, hz0, hz1, hz2⟩ := info_parts info33
  have hb := hide (bytes28_any a n c S i w hs)
  have hl := hide (stringBytes_any a n c S 0 w hs)
  have hc := hide (chain_any a n c S w (by omega) hs)
  clear hs
  go_enter Try.func8, Try.ntmps8
  go_wp2_with (first
    | (go_at_call 28; refine hb.out.mono ?_; rintro e w' ⟨⟨t, rfl⟩, hw⟩; obtain rfl := hw.symm)
    | (go_at_call 10; refine hl.out.mono ?_; rintro e w' ⟨⟨t1, rfl⟩, hw⟩; obtain rfl := hw.symm)
    | (go_at_call 19; refine hc.out.mono ?_; rintro e w1 ⟨rfl, hr⟩; have hsz := hr.size; have q1 : w1.cell? ⟨w.heap.size + 2, i, none⟩ = some (.pointer (some ⟨w.heap.size + 3 + i, 0, none⟩)) := hr.rowAll.cell hi))
  · go_ret
    exact ⟨rfl, Below.refl _ _⟩
  · go_ret
    exact ⟨rfl, Below.refl _ _⟩
  refine (zzunlink_any (w.heap.size + 1) (w.heap.size + 3 + i) i (nodesB w.heap.size n) w1 hr.dl (nodesB_at hi)).mono ?_
  rintro e w2 ⟨rfl, hd2, c2, c3, ht2⟩
  have hC := cut_of hi hr hd2 c2 c3 ht2
  clear hr hsz q1 hd2 c2 c3 ht2 hc hl hb
  have q2 := hC.row.cell hi
  have hap := hide (zzappend_any (w.heap.size + 1) (w.heap.size + 3 + i) _ w2 hC.dl (not_erased hi) (by omega) (by rw [hC.older]; rfl) hC.newer hC.froz)
  go_wp2_with (go_at_call 22; refine hap.out.mono ?_; rintro e w3 ⟨rfl, hd3, ht3⟩)
  have hM := moved_of hC hd3 ht3
  have hwo := hide (without_any (w.heap.size + 2) n i (fun j => w.heap.size + 3 + j) w3 hn hi hM.row)
  clear hap hC hd3 ht3 q2
  go_wp2_with (first
    | (go_at_call 27; refine hwo.out.mono ?_; rintro e w4 ⟨rfl, hown, hB4⟩; have q4 := (hM.later hi hB4).2.2 i hi)
    | (at_builtin; refine wpList_append_fits _ rfl _ _ 37 rfl w3.heap.size 33 i0 1 Try.underlying37 hi0 hz1 w3.heap.size (n - 1) n _ rfl (hown.alloc _) ⟨w4.heap.size, 0, none⟩ 1 1 [.pointer (some ⟨w.heap.size + 3 + i, 0, none⟩)] rfl rfl (cell_one_new _ _ _) (by simp [Value.oneCell']) (by omega) ?_))
  intro w5 hown5 hg5
  have hB5 : Below w3.heap.size w3 w5 := (hB4.alloc hB4.size _).grown hg5 (by simp; have := hB4.size; omega) (fun j hj => by cases hj; exact Nat.le_refl _)
  obtain ⟨hB, hd5, hrow5⟩ := hM.later hi hB5
  have hli := hide (listIs_any (w.heap.size + 1) w3.heap.size n (n - 1 + 1) _ w5 hd5 (moved_length hi) (by omega) (moved_row hi hown5))
  clear hrow5 hd5 hown5 hown hB4 hB5 hg5 hwo hM q4
  go_wp2_with (go_at_call 20; refine hli.out.mono ?_; rintro e w' ⟨rfl, hw⟩; obtain rfl := hw.symm)
  go_ret
  exact ⟨rfl, hB⟩

set_option maxRecDepth 100000 in
set_option maxHeartbeats 1000000 in
theorem moves_out (a : Option Addr) (n c : Nat) (i : Int) (S : Nat → ByteArray) (w : World) (ho : 65536 < n ∨ i < 0 ∨ (n : Int) ≤ i) (hs : Strs w a n S) :
    Calls Try.prog 8 #[.slice a n c, .int .i64 i] w fun e w' => e = .returned (.bool true) ∧ Below w.heap.size w w' := by
  have hb := hide (bytes28_any a n c S i w hs)
  have hl := hide (stringBytes_any a n c S 0 w hs)
  clear hs
  by_cases hn : 65536 < n
  · clear ho
    go_enter Try.func8, Try.ntmps8
    go_wp2_with (go_at_call 28; refine hb.out.mono ?_; rintro e w' ⟨⟨t, rfl⟩, hw⟩; obtain rfl := hw.symm)
    all_goals
      go_ret
      exact ⟨rfl, Below.refl _ _⟩
  by_cases h0 : i < 0
  · clear ho
    go_enter Try.func8, Try.ntmps8
    go_wp2_with (first
      | (go_at_call 28; refine hb.out.mono ?_; rintro e w' ⟨⟨t, rfl⟩, hw⟩; obtain rfl := hw.symm)
      | (go_at_call 10; refine hl.out.mono ?_; rintro e w' ⟨⟨t1, rfl⟩, hw⟩; obtain rfl := hw.symm))
    all_goals
      go_ret
      exact ⟨rfl, Below.refl _ _⟩
  · have h1 : (n : Int) ≤ i := by omega
    clear ho
    go_enter Try.func8, Try.ntmps8
    go_wp2_with (first
      | (go_at_call 28; refine hb.out.mono ?_; rintro e w' ⟨⟨t, rfl⟩, hw⟩; obtain rfl := hw.symm)
      | (go_at_call 10; refine hl.out.mono ?_; rintro e w' ⟨⟨t1, rfl⟩, hw⟩; obtain rfl := hw.symm))
    all_goals
      go_ret
      exact ⟨rfl, Below.refl _ _⟩

/-- THE WALK, WHOLE. -/
theorem moves_walk (a : Option Addr) (n c : Nat) (i : Int) (S : Nat → ByteArray) (w : World) (hs : Strs w a n S) :
    Calls Try.prog 8 #[.slice a n c, .int .i64 i] w fun e w' => e = .returned (.bool true) ∧ Below w.heap.size w w' := by
  by_cases ho : 65536 < n ∨ i < 0 ∨ (n : Int) ≤ i
  · exact moves_out a n c i S w ho hs
  · obtain ⟨j, rfl⟩ : ∃ j : Nat, i = j := ⟨i.toNat, by omega⟩
    exact moves_in a n c j S w (by omega) (by omega) hs

end Go.Proofs.Qxb6617097a
