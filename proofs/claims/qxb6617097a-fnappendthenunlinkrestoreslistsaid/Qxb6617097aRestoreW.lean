/-
  Seat b6617097a: the walk of FnAppendThenUnlinkRestoresList.
-/
import Derived.Test.Qxb6617097aRestoreP
namespace Go.Proofs.Qxb6617097a
open Go.RowKit

set_option maxRecDepth 100000 in
set_option maxHeartbeats 2000000 in
theorem restore_walk (a : Option Addr) (n c : Nat) (S : Nat → ByteArray) (x : ByteArray) (w : World) (hx : x.size ≤ maxLen) (hs : Strs w a n S) :
    Calls Try.prog 6 #[.slice a n c, .string x] w fun e w' => e = .returned (.bool true) ∧ Below w.heap.size w w' := by
  have hb := hide (bytes21_any a n c S x w hx hs)
  have hl := hide (stringBytes_any a n c S 0 w hs)
  by_cases hn : 65536 < n
  · clear hs
    go_enter Try.func6, Try.ntmps6
    go_wp2_with (go_at_call 21; refine hb.out.mono ?_; rintro e w' ⟨⟨t, rfl⟩, hw⟩; obtain rfl := hw.symm)
    all_goals
      go_ret
      exact ⟨rfl, Below.refl _ _⟩
  have hc := hide (chain_any a n c S w (by omega) hs)
  clear hs
  go_enter Try.func6, Try.ntmps6
  go_wp2_with (first
    | (go_at_call 21; refine hb.out.mono ?_; rintro e w' ⟨⟨t, rfl⟩, hw⟩; obtain rfl := hw.symm)
    | (go_at_call 10; refine hl.out.mono ?_; rintro e w' ⟨⟨t1, rfl⟩, hw⟩; obtain rfl := hw.symm)
    | (go_at_call 19; refine hc.out.mono ?_; rintro e w1 ⟨rfl, hr⟩; have hsz := hr.size)
    | (go_at_call 16; refine (node_any _ _ _).mono ?_; rintro e w' ⟨rfl, hw⟩; obtain rfl := hw.symm))
  · go_ret
    exact ⟨rfl, Below.refl _ _⟩
  · go_ret
    exact ⟨rfl, Below.refl _ _⟩
  · go_ret
    exact ⟨rfl, Below.refl _ _⟩
  refine (zzappend_any (w.heap.size + 1) (w.heap.size + 3 + n) (nodesB w.heap.size n) _ (alloc_dl hr _) (fun h => by have := nodesB_mem h; omega) (by omega) (by rw [alloc_new hr]; rfl) (by rw [alloc_new hr]; rfl) (alloc_froz hr _ _)).mono ?_
  rintro e w2 ⟨rfl, hd, ht⟩
  have hE := ext_of hr hd ht
  have hsz2 := hE.size
  have hmk := run_make_row' (P := Try.prog) 37 33 (.pointer none) 8 Try.underlying37 info33 rfl .i64 .i64 (n + 1) (by omega) (by omega)
  have ec : ((n + 1 : Nat) : Int) = (n : Int) + 1 := by omega
  rw [ec] at hmk
  have hC0 := cpy_start hE
  clear hr hsz hd ht hE hc hl hb ec
  go_wp2
  go_loopg [10] n (fun gk i wr => ∃ k : Nat, k ≤ n ∧ gk = n - k ∧ i = .int .i64 k ∧ Cpy w w.heap.size n k wr)
  case atStart => exact ⟨0, Nat.zero_le _, rfl, rfl, hC0⟩
  case round =>
    obtain ⟨k, hk, rfl, rfl, hC⟩ := hrel
    clear hC0 hmk hsz2
    have q1 : wr.cell? ⟨w.heap.size + 4 + n, k, none⟩ = some (.pointer none) := by rw [hC.wrow.cell (by omega)]; simp
    have q2 : wr.frozen? ⟨w.heap.size + 4 + n, k, none⟩ = false := hC.wrow.frozen k
    by_cases hkn : k < n
    · have q3 : wr.cell? ⟨w.heap.size + 2, k, none⟩ = some (.pointer (some ⟨w.heap.size + 3 + k, 0, none⟩)) := hC.row.cell hkn
      have hC1 := cpy_step hC
      clear hC
      go_wp2
      go_roundg (n - (k + 1))
      case rel => exact ⟨k + 1, by omega, rfl, by go_num, hC1⟩
      case measure => omega
    · obtain rfl : n = k := by omega
      have hC1 := cpy_step hC
      clear hC
      go_wp2_with fail
      refine (listIs_any (w.heap.size + 1) (w.heap.size + 4 + n) (n + 1) (n + 1) (nodesB w.heap.size (n + 1)) _ hC1.dl (nodesB_length _ _) (by omega) (fun i b hi => hC1.rowAt hi)).mono ?_
      rintro e w' ⟨rfl, hw⟩
      obtain rfl := hw.symm
      have hu := hide (zzunlink_any (w.heap.size + 1) (w.heap.size + 3 + n) n (nodesB w.heap.size (n + 1)) _ hC1.dl (nodesB_at (by omega)))
      clear q1 q2
      go_wp2_with (go_at_call 23; refine hu.out.mono ?_; rintro e w5 ⟨rfl, hd5, c2, c3, ht5⟩)
      obtain ⟨hB5, hrow5⟩ := cpy_back hC1 ht5
      rw [erase_last] at hd5
      have hli := hide (listIs_any (w.heap.size + 1) (w.heap.size + 2) n n (nodesB w.heap.size n) w5 hd5 (nodesB_length _ _) (by omega) hrow5)
      refine hli.out.mono ?_
      rintro e w' ⟨rfl, hw⟩
      obtain rfl := hw.symm
      clear hli hrow5 hd5 ht5 hu hC1
      go_wp2
      go_ret
      exact ⟨rfl, hB5⟩

end Go.Proofs.Qxb6617097a
