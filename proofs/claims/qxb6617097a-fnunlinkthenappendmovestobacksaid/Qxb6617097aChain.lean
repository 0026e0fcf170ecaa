/-
  Seat b6617097a: the walk of zzChain.
-/
import Derived.Test.Qxb6617097aListIs
namespace Go.Proofs.Qxb6617097a
open Go.RowKit

/-- The nodes' blocks behind k appends: node j lies in block N + 3 + j. -/
def nodesB (N k : Nat) : List Nat := (List.range k).map (fun j => N + 3 + j)
theorem nodesB_length (N k : Nat) : (nodesB N k).length = k := by simp [nodesB]
theorem nodesB_succ (N k : Nat) : nodesB N (k + 1) = nodesB N k ++ [N + 3 + k] := by simp [nodesB, List.range_succ]
theorem nodesB_mem {N k b : Nat} (h : b ∈ nodesB N k) : N + 3 ≤ b ∧ b < N + 3 + k := by
  simp [nodesB] at h
  obtain ⟨j, hj, rfl⟩ := h
  omega
theorem nodesB_at {N k j : Nat} (hj : j < k) : (nodesB N k)[j]? = some (N + 3 + j) := by simp [nodesB, hj]
theorem nodesB_get {N k j b : Nat} (h : (nodesB N k)[j]? = some b) : j < k ∧ b = N + 3 + j := by
  have hj : j < k := by have := (List.getElem?_eq_some_iff.1 h).1; rwa [nodesB_length] at this
  rw [nodesB_at hj] at h
  exact ⟨hj, by injection h with h; exact h.symm⟩

/-- THE WORLD BEHIND k APPENDS (N: the heap's size when zzChain was called; n: how many there will be). -/
structure Chain (w : World) (N n k : Nat) (wr : World) : Prop where
  below : Below N w wr
  size : wr.heap.size = N + 3 + k
  dl : DL wr (N + 1) (nodesB N k)
  row : wr.rowIs (N + 2) 33 n (fun i => if i < k then .pointer (some ⟨N + 3 + i, 0, none⟩) else .pointer none)

theorem chain_start (w : World) (n : Nat) : Chain w w.heap.size n 0 (((w.alloc (.map #[] 0)).alloc (.cells (wrCells w.heap.size 0) 51)).alloc (.cells (madeCells #[.pointer none] n) 33)) := by
  have hW : ∀ i v, (wrCells w.heap.size 0)[i]? = some v → (((w.alloc (.map #[] 0)).alloc (.cells (wrCells w.heap.size 0) 51)).alloc (.cells (madeCells #[.pointer none] n) 33)).cell? ⟨w.heap.size + 1, i, none⟩ = some v := fun i v hv => by
    rw [World.cell?_alloc_lt _ _ _ (by simp), World.cell?_alloc_at _ _ _ _ (by simp)]; exact hv
  refine ⟨(((Below.refl _ _).alloc (Nat.le_refl _) _).alloc (by simp) _).alloc (by simp; omega) _, by simp, ⟨by simp [nodesB], by simp [nodesB], fun i hi => ?_, fun i hi => ?_, fun b hb o => ?_⟩, ?_⟩
  · rw [nodesB_length] at hi
    obtain rfl : i = 0 := by omega
    exact hW 1 _ rfl
  · rw [nodesB_length] at hi
    obtain rfl : i = 0 := by omega
    exact hW 2 _ rfl
  · rcases hb with rfl | hb
    · rw [World.frozen?_alloc_old _ _ _ (by simp), World.frozen?_alloc_at _ _ _ _ (by simp)]
    · have := nodesB_mem hb; omega
  · have := World.rowIs_made ((w.alloc (.map #[] 0)).alloc (.cells (wrCells w.heap.size 0) 51)) (.pointer none) n 33
    have e : ((w.alloc (.map #[] 0)).alloc (.cells (wrCells w.heap.size 0) 51)).heap.size = w.heap.size + 2 := by simp
    rw [e] at this
    exact this.congr (fun i hi => by simp)

/-- The world at the round's call of ZZAppend: a new node, its address in the row. -/
def midW (wr : World) (s : ByteArray) (v : Int) (N k : Nat) : World := (wr.alloc (.cells (nodeCells s v) 53)).setCell ⟨N + 1 + 1, k, none⟩ (.pointer (some ⟨N + 3 + k, 0, none⟩))

theorem midW_block {wr : World} {s : ByteArray} {v : Int} {N k b : Nat} (hs : wr.heap.size = N + 3 + k) (hb : b ≠ N + 2) (hlt : b < N + 3 + k) : (midW wr s v N k).heap[b]? = wr.heap[b]? := by
  unfold midW
  rw [Below.heap_setCell _ _ _ _ hb, Below.heap_alloc _ _ _ (by omega)]

theorem midW_new {wr : World} {s : ByteArray} {v : Int} {N k i : Nat} (hs : wr.heap.size = N + 3 + k) : (midW wr s v N k).cell? ⟨N + 3 + k, i, none⟩ = (nodeCells s v)[i]? := by
  unfold midW
  rw [World.cell?_setCell_other _ _ _ _ (fun e => by have := congrArg Addr.block e; simp at this; omega), World.cell?_alloc_at _ _ _ _ (by omega)]

theorem chain_dl {w wr : World} {s : ByteArray} {v : Int} {N n k : Nat} (h : Chain w N n k wr) : DL (midW wr s v N k) (N + 1) (nodesB N k) := by
  refine h.dl.same (fun b hb => midW_block h.size ?_ ?_)
  all_goals
    rcases hb with rfl | hb
    · omega
    · have := nodesB_mem hb; omega

theorem chain_froz {w wr : World} {s : ByteArray} {v : Int} {N n k : Nat} (h : Chain w N n k wr) (o : Nat) : (midW wr s v N k).frozen? ⟨N + 3 + k, o, none⟩ = false := by
  unfold midW
  rw [World.frozen?_setCell, World.frozen?_alloc_at _ _ _ _ (by have := h.size; omega)]

theorem chain_step {w wr w1 : World} {s : ByteArray} {v : Int} {N n k : Nat} (h : Chain w N n k wr) (hd : DL w1 (N + 1) (nodesB N k ++ [N + 3 + k])) (ht : Touch (midW wr s v N k) w1 ((N + 3 + k) :: (N + 1) :: nodesB N k)) : Chain w N n (k + 1) w1 := by
  have hz := h.size
  have hmem : ∀ b, b ∈ (N + 3 + k) :: (N + 1) :: nodesB N k → b = N + 3 + k ∨ b = N + 1 ∨ N + 3 ≤ b := fun b hb => by
    rcases List.mem_cons.1 hb with h | hb
    · exact Or.inl h
    · rcases List.mem_cons.1 hb with h | hb
      · exact Or.inr (Or.inl h)
      · exact Or.inr (Or.inr (nodesB_mem hb).1)
  have hB : Below N w (midW wr s v N k) := (h.below.alloc (by omega) _).setCell (by show N ≤ N + 1 + 1; omega) _
  have hsz : (midW wr s v N k).heap.size = N + 3 + k + 1 := by
    unfold midW
    simp [World.setCell, hz]
  refine ⟨hB.trans (ht.below (fun b hb => by have := hmem b hb; omega)), by rw [ht.size, hsz]; omega, by rw [nodesB_succ]; exact hd, ht.row (fun hb => by have := hmem _ hb; omega) ?_⟩
  refine ((h.row.alloc (.cells (nodeCells s v) 53)).set k (.pointer (some ⟨N + 3 + k, 0, none⟩))).congr (fun i hi => ?_)
  by_cases e : i = k
  · subst e; simp
  · by_cases e2 : i < k
    · simp [e, e2, Nat.lt_succ_of_lt e2]
    · simp [e, e2, show ¬ i < k + 1 by omega]

theorem info33 : (Try.prog.info? 33).map (fun i => (i.zero, i.size, i.bytes)) = some (some (.pointer none), 1, 8) := by kernel_rfl

set_option maxHeartbeats 1000000 in
theorem chain_some (b off n c : Nat) (S : Nat → ByteArray) (w : World) (hn : n ≤ 65536) (hb : b < w.heap.size) (hc : ∀ i, i < n → w.cell? ⟨b, off + i, none⟩ = some (.string (S i))) :
    Calls Try.prog 19 #[.slice (some ⟨b, off, none⟩) n c] w fun e w' => e = .returned (.tuple #[.pointer (some ⟨w.heap.size + 1, 0, none⟩), .slice (some ⟨w.heap.size + 2, 0, none⟩) n n]) ∧ Chain w w.heap.size n n w' := by
  have R := chain_start w n
  have hmk := run_make_row' (P := Try.prog) 37 33 (.pointer none) 8 Try.underlying37 info33 rfl .i64 .i64 n (by omega) (by omega)
  go_enter Try.func19, Try.ntmps19
  go_wp2_with (go_at_call 29; refine (newWriters_any _ _).mono ?_; rintro e w' ⟨rfl, hw⟩; obtain rfl := hw.symm)
  go_loopg [6] n (fun gk i wr => ∃ k : Nat, k ≤ n ∧ gk = n - k ∧ i = .int .i64 k ∧ Chain w w.heap.size n k wr)
  case atStart => exact ⟨0, Nat.zero_le _, rfl, rfl, R⟩
  case round =>
    obtain ⟨k, hk, rfl, rfl, hr⟩ := hrel
    clear R hmk
    by_cases hkn : k < n
    · have hc1 : wr.cell? ⟨b, off + k, none⟩ = some (.string (S k)) := (hr.below.cell (p := ⟨b, off + k, none⟩) hb).trans (hc k hkn)
      have hsize := hr.size
      have q1 : ∀ o, (wr.alloc o).cell? ⟨w.heap.size + 2, k, none⟩ = some (.pointer none) := fun o => by
        rw [World.cell?_alloc_lt _ _ _ (by show w.heap.size + 2 < wr.heap.size; omega), hr.row.cell hkn]; simp
      have q2 : ∀ o, (wr.alloc o).frozen? ⟨w.heap.size + 2, k, none⟩ = false := fun o => by
        rw [World.frozen?_alloc_old _ _ _ (by show w.heap.size + 2 ≠ wr.heap.size; omega), hr.row.frozen]
      clear hc
      go_wp2_with (go_at_call 16; refine (node_any _ _ _).mono ?_; rintro e w' ⟨rfl, hw⟩; obtain rfl := hw.symm)
      have hap := hide (zzappend_any (w.heap.size + 1) (w.heap.size + 3 + k) (nodesB w.heap.size k) (midW wr (S k) ((k : Int) + 1) w.heap.size k) (chain_dl hr) (fun h => by have := nodesB_mem h; omega) (by omega)
        (by rw [midW_new hsize]; rfl) (by rw [midW_new hsize]; rfl) (chain_froz hr))
      unfold midW at hap
      refine hap.out.mono ?_
      rintro e w1 ⟨rfl, hd, ht⟩
      have R1 := chain_step hr hd ht
      clear hap hd ht hr q1 q2 hc1 hsize
      go_wp2
      go_roundg (n - (k + 1))
      case rel => exact ⟨k + 1, by omega, rfl, by go_num, R1⟩
      case measure => omega
    · obtain rfl : n = k := by omega
      go_wp2
      go_ret2
      exact ⟨rfl, hr⟩

theorem chain_none (a : Option Addr) (c : Nat) (w : World) :
    Calls Try.prog 19 #[.slice a 0 c] w fun e w' => e = .returned (.tuple #[.pointer (some ⟨w.heap.size + 1, 0, none⟩), .slice (some ⟨w.heap.size + 2, 0, none⟩) 0 0]) ∧ Chain w w.heap.size 0 0 w' := by
  have R := chain_start w 0
  have hmk : ∀ w : World, (Instr.makeSlice 37 (.int .i64 0) (.int .i64 0)).run Try.prog w = .ok (.slice (some ⟨w.heap.size, 0, none⟩) 0 0) (w.alloc (.cells (madeCells #[.pointer none] 0) 33)) :=
    run_make_row' (P := Try.prog) 37 33 (.pointer none) 8 Try.underlying37 info33 rfl .i64 .i64 0 (by omega) (by omega)
  go_enter Try.func19, Try.ntmps19
  go_wp2_with (go_at_call 29; refine (newWriters_any _ _).mono ?_; rintro e w' ⟨rfl, hw⟩; obtain rfl := hw.symm)
  refine wp_loop_rounds 1 ?_
  rw [rounds_succ]
  go_wp2
  go_ret2
  exact ⟨rfl, R⟩

theorem chain_any (a : Option Addr) (n c : Nat) (S : Nat → ByteArray) (w : World) (hn : n ≤ 65536) (hs : Strs w a n S) :
    Calls Try.prog 19 #[.slice a n c] w fun e w' => e = .returned (.tuple #[.pointer (some ⟨w.heap.size + 1, 0, none⟩), .slice (some ⟨w.heap.size + 2, 0, none⟩) n n]) ∧ Chain w w.heap.size n n w' := by
  obtain ⟨_, _, rfl | ⟨b, off, rfl, hlt, hc⟩⟩ := hs
  · exact chain_none a c w
  · exact chain_some b off n c S w hn hlt hc

/-- The row of nodes leads to the list's nodes. -/
theorem Chain.rowAt {w wr : World} {N n : Nat} (h : Chain w N n n wr) {i b : Nat} (hi : (nodesB N n)[i]? = some b) : wr.cell? ⟨N + 2, i, none⟩ = some (.pointer (some ⟨b, 0, none⟩)) := by
  obtain ⟨hj, rfl⟩ := nodesB_get hi
  rw [h.row.cell hj]
  simp [hj]

end Go.Proofs.Qxb6617097a
