/-
  Seat b6617097a: FnAppendThenUnlinkRestoresList: what becomes of the world, step by step. No walk here.
-/
import Derived.Test.Qxb6617097aChain
namespace Go.Proofs.Qxb6617097a
open Go.RowKit

/-- One node more, which is in no row. -/
structure Ext (w : World) (N n : Nat) (wr : World) : Prop where
  below : Below N w wr
  size : wr.heap.size = N + 4 + n
  dl : DL wr (N + 1) (nodesB N (n + 1))
  row : wr.rowIs (N + 2) 33 n (fun i => .pointer (some ⟨N + 3 + i, 0, none⟩))

theorem Chain.rowAll {w wr : World} {N n : Nat} (h : Chain w N n n wr) : wr.rowIs (N + 2) 33 n (fun i => .pointer (some ⟨N + 3 + i, 0, none⟩)) :=
  h.row.congr (fun i hi => by simp [hi])

theorem alloc_dl {w wr : World} {N n : Nat} (h : Chain w N n n wr) (o : Obj) : DL (wr.alloc o) (N + 1) (nodesB N n) := by
  have hz := h.size
  refine h.dl.same (fun b hb => Below.heap_alloc _ _ _ ?_)
  rcases hb with rfl | hb
  · omega
  · have := nodesB_mem hb; omega

theorem alloc_new {w wr : World} {N n : Nat} (h : Chain w N n n wr) (s : ByteArray) (v : Int) (i : Nat) : (wr.alloc (.cells (nodeCells s v) 53)).cell? ⟨N + 3 + n, i, none⟩ = (nodeCells s v)[i]? := by
  rw [World.cell?_alloc_at _ _ _ _ (by have := h.size; omega)]

theorem alloc_froz {w wr : World} {N n : Nat} (h : Chain w N n n wr) (s : ByteArray) (v : Int) (i : Nat) : (wr.alloc (.cells (nodeCells s v) 53)).frozen? ⟨N + 3 + n, i, none⟩ = false := by
  rw [World.frozen?_alloc_at _ _ _ _ (by have := h.size; omega)]

theorem ext_of {w wr w1 : World} {s : ByteArray} {v : Int} {N n : Nat} (h : Chain w N n n wr) (hd : DL w1 (N + 1) (nodesB N n ++ [N + 3 + n])) (ht : Touch (wr.alloc (.cells (nodeCells s v) 53)) w1 ((N + 3 + n) :: (N + 1) :: nodesB N n)) : Ext w N n w1 := by
  have hz := h.size
  have hmem : ∀ b, b ∈ (N + 3 + n) :: (N + 1) :: nodesB N n → b = N + 3 + n ∨ b = N + 1 ∨ N + 3 ≤ b := fun b hb => by
    rcases List.mem_cons.1 hb with h | hb
    · exact Or.inl h
    · rcases List.mem_cons.1 hb with h | hb
      · exact Or.inr (Or.inl h)
      · exact Or.inr (Or.inr (nodesB_mem hb).1)
  have hB : Below N w (wr.alloc (.cells (nodeCells s v) 53)) := h.below.alloc (by omega) _
  exact ⟨hB.trans (ht.below (fun b hb => by have := hmem b hb; omega)), by rw [ht.size]; simp; omega, by rw [nodesB_succ]; exact hd, ht.row (fun hb => by have := hmem _ hb; omega) (h.rowAll.alloc _)⟩

/-- The second row, filled as far as k. -/
structure Cpy (w : World) (N n k : Nat) (wr : World) : Prop where
  below : Below N w wr
  size : wr.heap.size = N + 5 + n
  dl : DL wr (N + 1) (nodesB N (n + 1))
  row : wr.rowIs (N + 2) 33 n (fun i => .pointer (some ⟨N + 3 + i, 0, none⟩))
  wrow : wr.rowIs (N + 4 + n) 33 (n + 1) (fun i => if i < k then .pointer (some ⟨N + 3 + i, 0, none⟩) else .pointer none)

theorem cpy_start {w wr : World} {N n : Nat} (h : Ext w N n wr) : Cpy w N n 0 (wr.alloc (.cells (madeCells #[.pointer none] (n + 1)) 33)) := by
  have hz := h.size
  refine ⟨h.below.alloc (by omega) _, by simp; omega, h.dl.same (fun b hb => Below.heap_alloc _ _ _ ?_), h.row.alloc _, ?_⟩
  · rcases hb with rfl | hb
    · omega
    · have := nodesB_mem hb; omega
  · have := World.rowIs_made wr (.pointer none) (n + 1) 33
    rw [hz] at this
    exact this.congr (fun i _ => by simp)

theorem cpy_step {w wr : World} {N n k : Nat} (h : Cpy w N n k wr) : Cpy w N n (k + 1) (wr.setCell ⟨N + 4 + n, k, none⟩ (.pointer (some ⟨N + 3 + k, 0, none⟩))) := by
  have hz := h.size
  refine ⟨h.below.setCell (by show N ≤ N + 4 + n; omega) _, by simp [World.setCell]; omega, h.dl.same (fun b hb => Below.heap_setCell _ _ _ _ ?_), h.row.setOther (by show N + 2 ≠ N + 4 + n; omega) _, (h.wrow.set k _).congr (fun i hi => ?_)⟩
  · show b ≠ N + 4 + n
    rcases hb with rfl | hb
    · omega
    · have := nodesB_mem hb; omega
  · by_cases e : i = k
    · subst e; simp
    · by_cases e2 : i < k
      · simp [e, e2, Nat.lt_succ_of_lt e2]
      · simp [e, e2, show ¬ i < k + 1 by omega]

/-- The whole second row leads to the list's nodes. -/
theorem Cpy.rowAt {w wr : World} {N n : Nat} (h : Cpy w N n (n + 1) wr) {i b : Nat} (hi : (nodesB N (n + 1))[i]? = some b) : wr.cell? ⟨N + 4 + n, i, none⟩ = some (.pointer (some ⟨b, 0, none⟩)) := by
  obtain ⟨hj, rfl⟩ := nodesB_get hi
  rw [h.wrow.cell hj]
  simp [hj]

theorem erase_last (N n : Nat) : (nodesB N (n + 1)).eraseIdx n = nodesB N n := by
  rw [nodesB_succ, List.eraseIdx_append_of_length_le (by rw [nodesB_length]; exact Nat.le_refl _), nodesB_length]
  simp

/-- The first row still leads to its nodes behind the unlink. -/
theorem cpy_back {w wr w1 : World} {N n : Nat} (h : Cpy w N n (n + 1) wr) (ht : Touch wr w1 ((N + 1) :: nodesB N (n + 1))) :
    Below N w w1 ∧ ∀ i b, (nodesB N n)[i]? = some b → w1.cell? ⟨N + 2, i, none⟩ = some (.pointer (some ⟨b, 0, none⟩)) := by
  have hmem : ∀ b, b ∈ (N + 1) :: nodesB N (n + 1) → b = N + 1 ∨ N + 3 ≤ b := fun b hb => by
    rcases List.mem_cons.1 hb with h | hb
    · exact Or.inl h
    · exact Or.inr (nodesB_mem hb).1
  refine ⟨h.below.trans (ht.below (fun b hb => by have := hmem b hb; omega)), fun i b hi => ?_⟩
  obtain ⟨hj, rfl⟩ := nodesB_get hi
  exact (ht.row (fun hb => by have := hmem _ hb; omega) h.row).cell hj

end Go.Proofs.Qxb6617097a
