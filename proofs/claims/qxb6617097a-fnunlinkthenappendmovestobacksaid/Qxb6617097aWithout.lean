/-
  Seat b6617097a: the walk of zzWithout.
-/
import Derived.Test.Qxb6617097aChain
namespace Go.Proofs.Qxb6617097a
open Go.RowKit

/-- The pointers C 0 .. C (k-1), the one at place i taken out. -/
def outXs (C : Nat → Nat) (i k : Nat) : List Value := ((List.range k).map (fun j => Value.pointer (some ⟨C j, 0, none⟩))).eraseIdx i
def outN (i k : Nat) : Nat := if k ≤ i then k else k - 1
theorem outN_le (i k : Nat) : outN i k ≤ k := by unfold outN; split <;> omega
theorem outN_lt {i k : Nat} (h : i < k) : outN i k = k - 1 := by unfold outN; rw [if_neg (by omega)]
theorem outN_step {i k : Nat} (h : ¬ k = i) : outN i (k + 1) = outN i k + 1 := by unfold outN; split <;> split <;> omega
theorem outN_same (i : Nat) : outN i (i + 1) = outN i i := by unfold outN; rw [if_neg (by omega), if_pos (Nat.le_refl _)]; omega

theorem outXs_step {C : Nat → Nat} {i k : Nat} (h : ¬ k = i) : outXs C i (k + 1) = outXs C i k ++ [.pointer (some ⟨C k, 0, none⟩)] := by
  unfold outXs
  rw [List.range_succ, List.map_append, List.map_singleton]
  by_cases e : i < k
  · rw [List.eraseIdx_append_of_lt_length (by simpa using e)]
  · rw [List.eraseIdx_of_length_le (by simp; omega), List.eraseIdx_of_length_le (by simp; omega)]
theorem erase_snoc {L : List Value} {x : Value} {i : Nat} (h : L.length = i) : (L ++ [x]).eraseIdx i = L.eraseIdx i := by
  subst h
  rw [List.eraseIdx_append_of_length_le (Nat.le_refl _), List.eraseIdx_of_length_le (Nat.le_refl L.length)]
  simp
theorem outXs_same (C : Nat → Nat) (i : Nat) : outXs C i (i + 1) = outXs C i i := by
  unfold outXs
  rw [List.range_succ, List.map_append, List.map_singleton, erase_snoc (by simp)]

set_option maxHeartbeats 1000000 in
theorem without_any (nb n i : Nat) (C : Nat → Nat) (w : World) (hn : n ≤ 65536) (hi : i < n) (hrow : w.rowIs nb 33 n (fun j => .pointer (some ⟨C j, 0, none⟩))) :
    Calls Try.prog 27 #[.slice (some ⟨nb, 0, none⟩) n n, .int .i64 i] w fun e w' => e = .returned (.slice (some ⟨w.heap.size, 0, none⟩) (n - 1) n) ∧
      w'.ownsRow w.heap.size 33 1 (.slice (some ⟨w.heap.size, 0, none⟩) (n - 1) n) (n - 1) (outXs C i n) ∧ Below w.heap.size w w' := by
  obtain ⟨i0, hi0, hz0, hz1, hz2⟩ := info_parts info33
  have hnb := hrow.lt
  go_enter Try.func27, Try.ntmps27
  go_wp2_with (at_make; refine wpList_make_own _ rfl _ _ 37 rfl w.heap.size 33 i0 (.pointer none) 1 Try.underlying37 hi0 hz0 hz1 .i64 .i64 _ n rfl rfl rfl (by rw [hz2]; omega) (by unfold maxLen; omega) (Nat.le_refl _) ?_)
  intro w1 hown hg
  have hB0 : Below w.heap.size w w1 := (Below.refl _ _).grown hg (Nat.le_refl _) (fun k hk => by cases hk)
  clear hg
  go_wp2
  go_loopg [5, 6] n (fun gk v j wr => ∃ k : Nat, k ≤ n ∧ gk = n - k ∧ j = .int .i64 k ∧ v = .slice (some ⟨w.heap.size, 0, none⟩) (outN i k) n ∧ wr.ownsRow w.heap.size 33 1 (.slice (some ⟨w.heap.size, 0, none⟩) (outN i k) n) (outN i k) (outXs C i k) ∧ Below w.heap.size w wr)
  case atStart => exact ⟨0, Nat.zero_le _, rfl, rfl, rfl, hown, hB0⟩
  case round =>
    obtain ⟨k, hk, rfl, rfl, rfl, hown, hB⟩ := hrel
    have hle := outN_le i k
    by_cases hkn : k < n
    · have hcell : wr.cell? ⟨nb, k, none⟩ = some (.pointer (some ⟨C k, 0, none⟩)) := (hB.cell (p := ⟨nb, k, none⟩) hnb).trans (hrow.cell hkn)
      by_cases hki : k = i
      · subst hki
        have e1 := outN_same k
        have e2 := outXs_same C k
        have HR : Hid (wr.ownsRow w.heap.size 33 1 (.slice (some ⟨w.heap.size, 0, none⟩) (outN k (k + 1)) n) (outN k (k + 1)) (outXs C k (k + 1))) := by rw [e1, e2]; exact hown
        have E1 := hide e1
        clear e1 e2 hown
        go_wp2
        go_roundg (n - (k + 1))
        case rel => exact ⟨k + 1, by omega, rfl, by go_num, by rw [E1.out], HR.out, hB⟩
        case measure => omega
      · have hlt : outN i k + 1 ≤ n := by omega
        go_wp2_with (at_builtin; refine wpList_append_fits _ rfl _ _ 37 rfl w.heap.size 33 i0 1 Try.underlying37 hi0 hz1 w.heap.size (outN i k) n (outXs C i k) rfl (hown.alloc _) ⟨wr.heap.size, 0, none⟩ 1 1 [.pointer (some ⟨C k, 0, none⟩)] rfl rfl (cell_one_new _ _ _) (by simp [Value.oneCell']) hlt ?_)
        intro w2 hown2 hg2
        have hB2 : Below w.heap.size w w2 := (hB.alloc hB.size _).grown hg2 (by simp; have := hB.size; omega) (fun j hj => by cases hj; exact Nat.le_refl _)
        have E1 := hide (outN_step hki)
        have HR : Hid (w2.ownsRow w.heap.size 33 1 (.slice (some ⟨w.heap.size, 0, none⟩) (outN i (k + 1)) n) (outN i (k + 1)) (outXs C i (k + 1))) := by rw [E1.out, outXs_step hki]; exact hown2
        clear hown hown2 hg2 hB hcell
        go_wp2
        go_roundg (n - (k + 1))
        case rel => exact ⟨k + 1, by omega, rfl, by go_num, by rw [E1.out], HR.out, hB2⟩
        case measure => omega
    · obtain rfl : n = k := by omega
      have e1 := outN_lt hi
      rw [e1] at hown ⊢
      clear hrow
      go_wp2
      go_ret
      exact ⟨rfl, hown, hB⟩

end Go.Proofs.Qxb6617097a
