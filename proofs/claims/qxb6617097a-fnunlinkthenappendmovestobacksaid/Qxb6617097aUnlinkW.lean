/-
  Seat b6617097a: the walk of FnUnlinkTakesOutExactlyThatEntry.
-/
import Derived.Test.Qxb6617097aWithout
import Derived.Test.Qxb6617097aRestoreP
namespace Go.Proofs.Qxb6617097a
open Go.RowKit

theorem outXs_at {N n i j b : Nat} (h : ((nodesB N n).eraseIdx i)[j]? = some b) : (outXs (fun j => N + 3 + j) i n)[j]? = some (.pointer (some ⟨b, 0, none⟩)) := by
  unfold outXs
  rw [List.getElem?_eraseIdx] at h ⊢
  by_cases e : j < i
  · rw [if_pos e] at h ⊢
    obtain ⟨hj, rfl⟩ := nodesB_get h
    simp [hj]
  · rw [if_neg e] at h ⊢
    obtain ⟨hj, rfl⟩ := nodesB_get h
    simp [hj]

/-- The world behind the unlink of entry i: the list without it; the row of nodes as it was; the entry linked to nothing. -/
structure Cut (w : World) (N n i : Nat) (wr : World) : Prop where
  below : Below N w wr
  size : wr.heap.size = N + 3 + n
  dl : DL wr (N + 1) ((nodesB N n).eraseIdx i)
  row : wr.rowIs (N + 2) 33 n (fun j => .pointer (some ⟨N + 3 + j, 0, none⟩))
  older : wr.cell? ⟨N + 3 + i, 2, none⟩ = some (.pointer none)
  newer : wr.cell? ⟨N + 3 + i, 3, none⟩ = some (.pointer none)
  froz : ∀ o, wr.frozen? ⟨N + 3 + i, o, none⟩ = false

theorem cut_of {w w1 w2 : World} {N n i : Nat} (hi : i < n) (h : Chain w N n n w1) (hd : DL w2 (N + 1) ((nodesB N n).eraseIdx i)) (c2 : w2.cell? ⟨N + 3 + i, 2, none⟩ = some (.pointer none)) (c3 : w2.cell? ⟨N + 3 + i, 3, none⟩ = some (.pointer none)) (ht : Touch w1 w2 ((N + 1) :: nodesB N n)) : Cut w N n i w2 := by
  have hmem : ∀ b, b ∈ (N + 1) :: nodesB N n → b = N + 1 ∨ N + 3 ≤ b := fun b hb => by
    rcases List.mem_cons.1 hb with h | hb
    · exact Or.inl h
    · exact Or.inr (nodesB_mem hb).1
  exact ⟨h.below.trans (ht.below (fun b hb => by have := hmem b hb; omega)), by rw [ht.size]; exact h.size, hd, ht.row (fun hb => by have := hmem _ hb; omega) h.rowAll, c2, c3,
    fun o => (ht.frozen _).trans (h.dl.frozen _ (Or.inr (List.mem_of_getElem? (nodesB_at hi))) o)⟩

/-- Nothing of it turns where only new blocks are made and written. -/
theorem Cut.later {w wr w' : World} {N n i : Nat} (hi : i < n) (h : Cut w N n i wr) (hb : Below wr.heap.size wr w') :
    Below N w w' ∧ DL w' (N + 1) ((nodesB N n).eraseIdx i) ∧ (∀ j, j < n → w'.cell? ⟨N + 2, j, none⟩ = some (.pointer (some ⟨N + 3 + j, 0, none⟩))) ∧ w'.cell? ⟨N + 3 + i, 2, none⟩ = some (.pointer none) ∧ w'.cell? ⟨N + 3 + i, 3, none⟩ = some (.pointer none) := by
  have hz := h.size
  refine ⟨h.below.trans (hb.mono (by omega)), h.dl.same (fun b hbb => hb.block b ?_), fun j hj => ?_, ?_, ?_⟩
  · rcases hbb with rfl | hbb
    · omega
    · have := nodesB_mem ((List.eraseIdx_sublist _ _).subset hbb); omega
  · rw [hb.cell (p := ⟨N + 2, j, none⟩) (by show N + 2 < wr.heap.size; omega)]; exact h.row.cell hj
  · rw [hb.cell (p := ⟨N + 3 + i, 2, none⟩) (by show N + 3 + i < wr.heap.size; omega)]; exact h.older
  · rw [hb.cell (p := ⟨N + 3 + i, 3, none⟩) (by show N + 3 + i < wr.heap.size; omega)]; exact h.newer

theorem erase_length {N n i : Nat} (hi : i < n) : ((nodesB N n).eraseIdx i).length = n - 1 := by
  rw [List.length_eraseIdx_of_lt (by rw [nodesB_length]; exact hi), nodesB_length]

theorem out_row {w : World} {R N n i : Nat} (hi : i < n) (h : w.ownsRow R 33 1 (.slice (some ⟨R, 0, none⟩) (n - 1) n) (n - 1) (outXs (fun j => N + 3 + j) i n)) (j b : Nat) (hj : ((nodesB N n).eraseIdx i)[j]? = some b) : w.cell? ⟨R, j, none⟩ = some (.pointer (some ⟨b, 0, none⟩)) := by
  have hl : j < n - 1 := by have := (List.getElem?_eq_some_iff.1 hj).1; rwa [erase_length hi] at this
  rw [h.cellAt j (by omega)]
  exact outXs_at hj

set_option maxRecDepth 100000 in
set_option maxHeartbeats 2000000 in
theorem unlink_in (a : Option Addr) (n c i : Nat) (S : Nat → ByteArray) (w : World) (hn : n ≤ 65536) (hi : i < n) (hs : Strs w a n S) :
    Calls Try.prog 7 #[.slice a n c, .int .i64 i] w fun e w' => e = .returned (.bool true) ∧ Below w.heap.size w w' := by
  have hb := hide (bytes26_any a n c S i w hs)
  have hl := hide (stringBytes_any a n c S 0 w hs)
  have hc := hide (chain_any a n c S w (by omega) hs)
  clear hs
  go_enter Try.func7, Try.ntmps7
  go_wp2_with (first
    | (go_at_call 26; refine hb.out.mono ?_; rintro e w' ⟨⟨t, rfl⟩, hw⟩; obtain rfl := hw.symm)
    | (go_at_call 10; refine hl.out.mono ?_; rintro e w' ⟨⟨t1, rfl⟩, hw⟩; obtain rfl := hw.symm)
    | (go_at_call 19; refine hc.out.mono ?_; rintro e w1 ⟨rfl, hr⟩; have hsz := hr.size; have q1 : w1.cell? ⟨w.heap.size + 2, i, none⟩ = some (.pointer (some ⟨w.heap.size + 3 + i, 0, none⟩)) := hr.rowAll.cell hi))
  · go_ret
    exact ⟨rfl, Below.refl _ _⟩
  · go_ret
    exact ⟨rfl, Below.refl _ _⟩
  refine (zzunlink_any (w.heap.size + 1) (w.heap.size + 3 + i) i (nodesB w.heap.size n) w1 hr.dl (nodesB_at hi)).mono ?_
  rintro e w2 ⟨rfl, hd2, c2, c3, ht2⟩
  have hC := cut_of hi hr hd2 c2 c3 ht2
  clear hr hsz q1 hd2 c2 c3 ht2 hc hl hb
  have hwo := hide (without_any (w.heap.size + 2) n i (fun j => w.heap.size + 3 + j) w2 hn hi hC.row)
  go_wp2_with (go_at_call 27; refine hwo.out.mono ?_; rintro e w3 ⟨rfl, hown, hB3⟩)
  obtain ⟨hB, hd3, hrow3, o3, n3⟩ := hC.later hi hB3
  have q3 := hrow3 i hi
  refine (listIs_any (w.heap.size + 1) w2.heap.size n (n - 1) _ w3 hd3 (erase_length hi) (by omega) (out_row hi hown)).mono ?_
  rintro e w' ⟨rfl, hw⟩
  obtain rfl := hw.symm
  clear hrow3 hd3 hown hB3 hwo hC
  go_wp2
  go_ret
  exact ⟨rfl, hB⟩

set_option maxRecDepth 100000 in
set_option maxHeartbeats 1000000 in
theorem unlink_out (a : Option Addr) (n c : Nat) (i : Int) (S : Nat → ByteArray) (w : World) (ho : 65536 < n ∨ i < 0 ∨ (n : Int) ≤ i) (hs : Strs w a n S) :
    Calls Try.prog 7 #[.slice a n c, .int .i64 i] w fun e w' => e = .returned (.bool true) ∧ Below w.heap.size w w' := by
  have hb := hide (bytes26_any a n c S i w hs)
  have hl := hide (stringBytes_any a n c S 0 w hs)
  clear hs
  by_cases hn : 65536 < n
  · clear ho
    go_enter Try.func7, Try.ntmps7
    go_wp2_with (go_at_call 26; refine hb.out.mono ?_; rintro e w' ⟨⟨t, rfl⟩, hw⟩; obtain rfl := hw.symm)
    all_goals
      go_ret
      exact ⟨rfl, Below.refl _ _⟩
  by_cases h0 : i < 0
  · clear ho
    go_enter Try.func7, Try.ntmps7
    go_wp2_with (first
      | (go_at_call 26; refine hb.out.mono ?_; rintro e w' ⟨⟨t, rfl⟩, hw⟩; obtain rfl := hw.symm)
      | (go_at_call 10; refine hl.out.mono ?_; rintro e w' ⟨⟨t1, rfl⟩, hw⟩; obtain rfl := hw.symm))
    all_goals
      go_ret
      exact ⟨rfl, Below.refl _ _⟩
  · have h1 : (n : Int) ≤ i := by omega
    clear ho
    go_enter Try.func7, Try.ntmps7
    go_wp2_with (first
      | (go_at_call 26; refine hb.out.mono ?_; rintro e w' ⟨⟨t, rfl⟩, hw⟩; obtain rfl := hw.symm)
      | (go_at_call 10; refine hl.out.mono ?_; rintro e w' ⟨⟨t1, rfl⟩, hw⟩; obtain rfl := hw.symm))
    all_goals
      go_ret
      exact ⟨rfl, Below.refl _ _⟩

/-- THE WALK, WHOLE. -/
theorem unlink_walk (a : Option Addr) (n c : Nat) (i : Int) (S : Nat → ByteArray) (w : World) (hs : Strs w a n S) :
    Calls Try.prog 7 #[.slice a n c, .int .i64 i] w fun e w' => e = .returned (.bool true) ∧ Below w.heap.size w w' := by
  by_cases ho : 65536 < n ∨ i < 0 ∨ (n : Int) ≤ i
  · exact unlink_out a n c i S w ho hs
  · obtain ⟨j, rfl⟩ : ∃ j : Nat, i = j := ⟨i.toNat, by omega⟩
    exact unlink_in a n c j S w (by omega) (by omega) hs

end Go.Proofs.Qxb6617097a
