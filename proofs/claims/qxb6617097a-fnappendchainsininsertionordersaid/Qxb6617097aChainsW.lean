/-
  Seat b6617097a: the walk of FnAppendChainsInInsertionOrder.
-/
import Derived.Test.Qxb6617097aChain
namespace Go.Proofs.Qxb6617097a
open Go.RowKit

set_option maxHeartbeats 1000000 in
theorem chains_walk (a : Option Addr) (n c : Nat) (S : Nat → ByteArray) (w : World) (hs : Strs w a n S) :
    Calls Try.prog 5 #[.slice a n c] w fun e w' => e = .returned (.bool true) ∧ Below w.heap.size w w' := by
  have hb := hide (bytes18_any a n c S w hs)
  have hl := hide (stringBytes_any a n c S 0 w hs)
  by_cases hn : 65536 < n
  · clear hs
    go_enter Try.func5, Try.ntmps5
    go_wp2_with (go_at_call 18; refine hb.out.mono ?_; rintro e w' ⟨⟨t, rfl⟩, hw⟩; obtain rfl := hw.symm)
    all_goals
      go_ret
      exact ⟨rfl, Below.refl _ _⟩
  have hc := hide (chain_any a n c S w (by omega) hs)
  clear hs
  go_enter Try.func5, Try.ntmps5
  go_wp2_with (first
    | (go_at_call 18; refine hb.out.mono ?_; rintro e w' ⟨⟨t, rfl⟩, hw⟩; obtain rfl := hw.symm)
    | (go_at_call 10; refine hl.out.mono ?_; rintro e w' ⟨⟨t1, rfl⟩, hw⟩; obtain rfl := hw.symm)
    | (go_at_call 19; refine hc.out.mono ?_; rintro e w1 ⟨rfl, hr⟩))
  · go_ret
    exact ⟨rfl, Below.refl _ _⟩
  · go_ret
    exact ⟨rfl, Below.refl _ _⟩
  refine (listIs_any (w.heap.size + 1) (w.heap.size + 2) n n (nodesB w.heap.size n) w1 hr.dl (nodesB_length _ _) (by omega) (fun i b hi => hr.rowAt hi)).mono ?_
  rintro e w' ⟨rfl, hw⟩
  obtain rfl := hw.symm
  have hB := hr.below
  clear hr hc
  go_wp2
  go_ret
  exact ⟨rfl, hB⟩

end Go.Proofs.Qxb6617097a
