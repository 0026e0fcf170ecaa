/-
  Seat b6617097a: what a slice of strings among the arguments is told as; the functions that only count bytes.
-/
import Derived.Test.Qxb6617097aRows
import Derived.WalkKit
import Derived.WalkLawsBesides
import Derived.WalkSpells
namespace Go.Proofs.Qxb6617097a
open Go.RowKit

/-- A SLICE OF n STRINGS S 0 .. S (n-1) at address a. -/
def Strs (w : World) (a : Option Addr) (n : Nat) (S : Nat → ByteArray) : Prop :=
  n ≤ maxLen ∧ (∀ i, i < n → (S i).size ≤ maxLen) ∧
    (n = 0 ∨ ∃ b off, a = some ⟨b, off, none⟩ ∧ b < w.heap.size ∧ ∀ i, i < n → w.cell? ⟨b, off + i, none⟩ = some (.string (S i)))

theorem Strs.below {w w' : World} {a : Option Addr} {n : Nat} {S : Nat → ByteArray} (h : Strs w a n S) {B : Nat} (hb : Below B w w') (hB : w.heap.size ≤ B) : Strs w' a n S := by
  obtain ⟨h1, h2, h3⟩ := h
  refine ⟨h1, h2, ?_⟩
  rcases h3 with h3 | ⟨b, off, ha, hlt, hc⟩
  · exact Or.inl h3
  · exact Or.inr ⟨b, off, ha, Nat.lt_of_lt_of_le hlt hb.size, fun i hi => (hb.cell (p := ⟨b, off + i, none⟩) (by show b < B; omega)).trans (hc i hi)⟩

/-- The call returns some bool / some int (a word of its own, so that the walk's simp does not part it). -/
def SomeBool (e : Ending) : Prop := ∃ t : Bool, e = .returned (.bool t)
theorem someBool (t : Bool) : SomeBool (.returned (.bool t)) := ⟨t, rfl⟩
def SomeInt (e : Ending) : Prop := ∃ t : Int, e = .returned (.int .i64 t)
theorem someInt (t : Int) : SomeInt (.returned (.int .i64 t)) := ⟨t, rfl⟩

set_option maxHeartbeats 400000 in
/-- zzStringBytes returns some number; nothing turns. -/
theorem stringBytes_any (a : Option Addr) (n c : Nat) (S : Nat → ByteArray) (t0 : Int) (w : World) (hs : Strs w a n S) :
    Calls Try.prog 10 #[.slice a n c, .int .i64 t0] w fun e w' => SomeInt e ∧ w' = w := by
  obtain ⟨hm, hsz, hs⟩ := hs
  unfold maxLen at hm hsz
  rcases hs with rfl | ⟨b, off, rfl, hlt, hc⟩
  · go_enter Try.func10, Try.ntmps10
    go_wp2
    refine wp_loop_rounds 1 ?_
    rw [rounds_succ]
    go_wp2
    go_ret
    exact ⟨someInt _, rfl⟩
  · go_enter Try.func10, Try.ntmps10
    go_wp2
    go_loop [1, 5] (fun t i => ∃ k : Nat, ∃ tt : Int, k ≤ n ∧ i = .int .i64 k ∧ t = .int .i64 tt) (fun _ i => n - (intOf i).toNat)
    case atStart => exact ⟨0, t0, Nat.zero_le _, rfl, rfl⟩
    case round =>
      obtain ⟨k, tt, hk, rfl, rfl⟩ := hrel
      by_cases hkn : k < n
      · have hcell := hc k hkn
        have hz := hsz k hkn
        clear hc hsz
        go_wp2
        · go_ret
          exact ⟨someInt _, rfl⟩
        · go_round
          case rel => exact ⟨k + 1, _, by omega, by go_num, rfl⟩
          case measure => simp [intOf]; omega
      · go_wp2
        go_ret
        exact ⟨someInt _, rfl⟩


set_option maxHeartbeats 400000 in
/-- zzBytes_FnAppendChainsInInsertionOrder returns some bool; nothing turns. -/
theorem bytes18_any (a : Option Addr) (n c : Nat) (S : Nat → ByteArray) (w : World) (hs : Strs w a n S) :
    Calls Try.prog 18 #[.slice a n c] w fun e w' => SomeBool e ∧ w' = w := by
  obtain ⟨hm, hsz, hs⟩ := hs
  unfold maxLen at hm hsz
  rcases hs with rfl | ⟨b, off, rfl, hlt, hc⟩
  · go_enter Try.func18, Try.ntmps18
    go_wp2
    refine wp_loop_rounds 1 ?_
    rw [rounds_succ]
    go_wp2
    go_ret
    exact ⟨someBool _, rfl⟩
  · by_cases h20 : 1048576 < n
    · go_enter Try.func18, Try.ntmps18
      go_wp2
      go_ret
      exact ⟨someBool _, rfl⟩
    go_enter Try.func18, Try.ntmps18
    go_wp2
    go_loop [3, 4] (fun t i => ∃ k : Nat, ∃ tt : Int, k ≤ n ∧ i = .int .i64 k ∧ t = .int .i64 tt) (fun _ i => n - (intOf i).toNat)
    case atStart => exact ⟨0, _, Nat.zero_le _, rfl, rfl⟩
    case round =>
      obtain ⟨k, tt, hk, rfl, rfl⟩ := hrel
      by_cases hkn : k < n
      · have hcell := hc k hkn
        have hz := hsz k hkn
        clear hc hsz
        go_wp2
        · go_ret
          exact ⟨someBool _, rfl⟩
        · go_ret
          exact ⟨someBool _, rfl⟩
        · go_round
          case rel => exact ⟨k + 1, _, by omega, by go_num, rfl⟩
          case measure => simp [intOf]; omega
      · go_wp2
        go_ret
        exact ⟨someBool _, rfl⟩


set_option maxHeartbeats 400000 in
/-- zzBytes_FnAppendThenUnlinkRestoresList returns some bool; nothing turns. -/
theorem bytes21_any (a : Option Addr) (n c : Nat) (S : Nat → ByteArray) (x : ByteArray) (w : World) (hx : x.size ≤ maxLen) (hs : Strs w a n S) :
    Calls Try.prog 21 #[.slice a n c, .string x] w fun e w' => SomeBool e ∧ w' = w := by
  obtain ⟨hm, hsz, hs⟩ := hs
  unfold maxLen at hm hsz hx
  rcases hs with rfl | ⟨b, off, rfl, hlt, hc⟩
  · go_enter Try.func21, Try.ntmps21
    go_wp2
    refine wp_loop_rounds 1 ?_
    rw [rounds_succ]
    go_wp2
    all_goals
      go_ret
      exact ⟨someBool _, rfl⟩
  · by_cases h20 : 1048576 < n
    · go_enter Try.func21, Try.ntmps21
      go_wp2
      go_ret
      exact ⟨someBool _, rfl⟩
    go_enter Try.func21, Try.ntmps21
    go_wp2
    go_loop [5, 6] (fun t i => ∃ k : Nat, ∃ tt : Int, k ≤ n ∧ i = .int .i64 k ∧ t = .int .i64 tt) (fun _ i => n - (intOf i).toNat)
    case atStart => exact ⟨0, _, Nat.zero_le _, rfl, rfl⟩
    case round =>
      obtain ⟨k, tt, hk, rfl, rfl⟩ := hrel
      by_cases hkn : k < n
      · have hcell := hc k hkn
        have hz := hsz k hkn
        clear hc hsz
        go_wp2
        · go_ret
          exact ⟨someBool _, rfl⟩
        · go_ret
          exact ⟨someBool _, rfl⟩
        · go_round
          case rel => exact ⟨k + 1, _, by omega, by go_num, rfl⟩
          case measure => simp [intOf]; omega
      · go_wp2
        all_goals
          go_ret
          exact ⟨someBool _, rfl⟩

set_option maxHeartbeats 400000 in
/-- zzBytes_FnUnlinkTakesOutExactlyThatEntry returns some bool; nothing turns. -/
theorem bytes26_any (a : Option Addr) (n c : Nat) (S : Nat → ByteArray) (x : Int) (w : World) (hs : Strs w a n S) :
    Calls Try.prog 26 #[.slice a n c, .int .i64 x] w fun e w' => SomeBool e ∧ w' = w := by
  obtain ⟨hm, hsz, hs⟩ := hs
  unfold maxLen at hm hsz
  rcases hs with rfl | ⟨b, off, rfl, hlt, hc⟩
  · go_enter Try.func26, Try.ntmps26
    go_wp2
    refine wp_loop_rounds 1 ?_
    rw [rounds_succ]
    go_wp2
    all_goals
      go_ret
      exact ⟨someBool _, rfl⟩
  · by_cases h20 : 1048576 < n
    · go_enter Try.func26, Try.ntmps26
      go_wp2
      go_ret
      exact ⟨someBool _, rfl⟩
    go_enter Try.func26, Try.ntmps26
    go_wp2
    go_loop [5, 6] (fun t i => ∃ k : Nat, ∃ tt : Int, k ≤ n ∧ i = .int .i64 k ∧ t = .int .i64 tt) (fun _ i => n - (intOf i).toNat)
    case atStart => exact ⟨0, _, Nat.zero_le _, rfl, rfl⟩
    case round =>
      obtain ⟨k, tt, hk, rfl, rfl⟩ := hrel
      by_cases hkn : k < n
      · have hcell := hc k hkn
        have hz := hsz k hkn
        clear hc hsz
        go_wp2
        · go_ret
          exact ⟨someBool _, rfl⟩
        · go_ret
          exact ⟨someBool _, rfl⟩
        · go_round
          case rel => exact ⟨k + 1, _, by omega, by go_num, rfl⟩
          case measure => simp [intOf]; omega
      · go_wp2
        all_goals
          go_ret
          exact ⟨someBool _, rfl⟩

set_option maxHeartbeats 400000 in
/-- zzBytes_FnUnlinkThenAppendMovesToBack returns some bool; nothing turns. -/
theorem bytes28_any (a : Option Addr) (n c : Nat) (S : Nat → ByteArray) (x : Int) (w : World) (hs : Strs w a n S) :
    Calls Try.prog 28 #[.slice a n c, .int .i64 x] w fun e w' => SomeBool e ∧ w' = w := by
  obtain ⟨hm, hsz, hs⟩ := hs
  unfold maxLen at hm hsz
  rcases hs with rfl | ⟨b, off, rfl, hlt, hc⟩
  · go_enter Try.func28, Try.ntmps28
    go_wp2
    refine wp_loop_rounds 1 ?_
    rw [rounds_succ]
    go_wp2
    all_goals
      go_ret
      exact ⟨someBool _, rfl⟩
  · by_cases h20 : 1048576 < n
    · go_enter Try.func28, Try.ntmps28
      go_wp2
      go_ret
      exact ⟨someBool _, rfl⟩
    go_enter Try.func28, Try.ntmps28
    go_wp2
    go_loop [5, 6] (fun t i => ∃ k : Nat, ∃ tt : Int, k ≤ n ∧ i = .int .i64 k ∧ t = .int .i64 tt) (fun _ i => n - (intOf i).toNat)
    case atStart => exact ⟨0, _, Nat.zero_le _, rfl, rfl⟩
    case round =>
      obtain ⟨k, tt, hk, rfl, rfl⟩ := hrel
      by_cases hkn : k < n
      · have hcell := hc k hkn
        have hz := hsz k hkn
        clear hc hsz
        go_wp2
        · go_ret
          exact ⟨someBool _, rfl⟩
        · go_ret
          exact ⟨someBool _, rfl⟩
        · go_round
          case rel => exact ⟨k + 1, _, by omega, by go_num, rfl⟩
          case measure => simp [intOf]; omega
      · go_wp2
        all_goals
          go_ret
          exact ⟨someBool _, rfl⟩

end Go.Proofs.Qxb6617097a
