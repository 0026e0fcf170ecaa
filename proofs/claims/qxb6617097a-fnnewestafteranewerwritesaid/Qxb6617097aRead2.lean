/-
  Seat b6617097a: the two counting functions over three slices.
-/
import Derived.Test.Qxb6617097aRead
namespace Go.Proofs.Qxb6617097a
open Go.RowKit

set_option maxHeartbeats 800000 in
theorem bytes9_ee (a : Option Addr) (d : Option Addr) (c c2 : Nat) (av : Option Addr) (nv cv : Nat) (fl : Int) (w : World) :
    Calls Try.prog 9 #[.slice a 0 c, .slice av nv cv, .int .u64 fl, .slice d 0 c2] w fun e w' => SomeBool e ∧ w' = w := by
  go_enter Try.func9, Try.ntmps9
  go_wp2
  refine wp_loop_rounds 1 ?_
  rw [rounds_succ]
  go_wp2
  all_goals first | (go_ret; exact ⟨someBool _, rfl⟩) | skip
  refine wp_loop_rounds 1 ?_
  rw [rounds_succ]
  go_wp2
  all_goals
    go_ret
    exact ⟨someBool _, rfl⟩

set_option maxHeartbeats 800000 in
theorem bytes9_es (a : Option Addr) (b2 off2 m : Nat) (c c2 : Nat) (T : Nat → ByteArray) (av : Option Addr) (nv cv : Nat) (fl : Int) (w : World) (hm2 : m ≤ 9223372036854775807) (htz : ∀ i, i < m → (T i).size ≤ 9223372036854775807) (hd : ∀ i, i < m → w.cell? ⟨b2, off2 + i, none⟩ = some (.string (T i))) :
    Calls Try.prog 9 #[.slice a 0 c, .slice av nv cv, .int .u64 fl, .slice (some ⟨b2, off2, none⟩) m c2] w fun e w' => SomeBool e ∧ w' = w := by
  go_enter Try.func9, Try.ntmps9
  go_wp2
  refine wp_loop_rounds 1 ?_
  rw [rounds_succ]
  go_wp2
  all_goals first | (go_ret; exact ⟨someBool _, rfl⟩) | skip
  go_loop [9, 11] (fun t i => ∃ k : Nat, ∃ tt : Int, k ≤ m ∧ i = .int .i64 k ∧ t = .int .i64 tt) (fun _ i => m - (intOf i).toNat)
  case atStart => exact ⟨0, _, Nat.zero_le _, rfl, rfl⟩
  case round =>
    obtain ⟨k2, tt2, hk2, rfl, rfl⟩ := hrel
    by_cases hkm : k2 < m
    · have hcell2 := hd k2 hkm
      have hz2 := htz k2 hkm
      clear hd htz
      go_wp2
      · go_ret
        exact ⟨someBool _, rfl⟩
      · go_ret
        exact ⟨someBool _, rfl⟩
      · go_round
        case rel => exact ⟨k2 + 1, _, by omega, by go_num, rfl⟩
        case measure => simp [intOf]; omega
    · go_wp2
      all_goals
        go_ret
        exact ⟨someBool _, rfl⟩

set_option maxHeartbeats 800000 in
theorem bytes9_se (b off n : Nat) (d : Option Addr) (c c2 : Nat) (S : Nat → ByteArray) (av : Option Addr) (nv cv : Nat) (fl : Int) (w : World) (hm : n ≤ 9223372036854775807) (hsz : ∀ i, i < n → (S i).size ≤ 9223372036854775807) (hc : ∀ i, i < n → w.cell? ⟨b, off + i, none⟩ = some (.string (S i))) (h20 : ¬ 1048576 < n) :
    Calls Try.prog 9 #[.slice (some ⟨b, off, none⟩) n c, .slice av nv cv, .int .u64 fl, .slice d 0 c2] w fun e w' => SomeBool e ∧ w' = w := by
  go_enter Try.func9, Try.ntmps9
  go_wp2
  go_loop [9, 10] (fun t i => ∃ k : Nat, ∃ tt : Int, k ≤ n ∧ i = .int .i64 k ∧ t = .int .i64 tt) (fun _ i => n - (intOf i).toNat)
  case atStart => exact ⟨0, _, Nat.zero_le _, rfl, rfl⟩
  case round =>
    obtain ⟨k, tt, hk, rfl, rfl⟩ := hrel
    by_cases hkn : k < n
    · have hcell := hc k hkn
      have hz := hsz k hkn
      clear hc hsz
      go_wp2
      · go_ret
        exact ⟨someBool _, rfl⟩
      · go_ret
        exact ⟨someBool _, rfl⟩
      · go_round
        case rel => exact ⟨k + 1, _, by omega, by go_num, rfl⟩
        case measure => simp [intOf]; omega
    · go_wp2
      all_goals first | (go_ret; exact ⟨someBool _, rfl⟩) | skip
      refine wp_loop_rounds 1 ?_
      rw [rounds_succ]
      go_wp2
      all_goals
        go_ret
        exact ⟨someBool _, rfl⟩

set_option maxHeartbeats 800000 in
theorem bytes9_ss (b off n : Nat) (b2 off2 m : Nat) (c c2 : Nat) (S : Nat → ByteArray) (T : Nat → ByteArray) (av : Option Addr) (nv cv : Nat) (fl : Int) (w : World) (hm : n ≤ 9223372036854775807) (hsz : ∀ i, i < n → (S i).size ≤ 9223372036854775807) (hc : ∀ i, i < n → w.cell? ⟨b, off + i, none⟩ = some (.string (S i))) (h20 : ¬ 1048576 < n) (hm2 : m ≤ 9223372036854775807) (htz : ∀ i, i < m → (T i).size ≤ 9223372036854775807) (hd : ∀ i, i < m → w.cell? ⟨b2, off2 + i, none⟩ = some (.string (T i))) :
    Calls Try.prog 9 #[.slice (some ⟨b, off, none⟩) n c, .slice av nv cv, .int .u64 fl, .slice (some ⟨b2, off2, none⟩) m c2] w fun e w' => SomeBool e ∧ w' = w := by
  go_enter Try.func9, Try.ntmps9
  go_wp2
  go_loop [9, 10] (fun t i => ∃ k : Nat, ∃ tt : Int, k ≤ n ∧ i = .int .i64 k ∧ t = .int .i64 tt) (fun _ i => n - (intOf i).toNat)
  case atStart => exact ⟨0, _, Nat.zero_le _, rfl, rfl⟩
  case round =>
    obtain ⟨k, tt, hk, rfl, rfl⟩ := hrel
    by_cases hkn : k < n
    · have hcell := hc k hkn
      have hz := hsz k hkn
      clear hc hsz
      go_wp2
      · go_ret
        exact ⟨someBool _, rfl⟩
      · go_ret
        exact ⟨someBool _, rfl⟩
      · go_round
        case rel => exact ⟨k + 1, _, by omega, by go_num, rfl⟩
        case measure => simp [intOf]; omega
    · go_wp2
      all_goals first | (go_ret; exact ⟨someBool _, rfl⟩) | skip
      go_loop [9, 11] (fun t i => ∃ k : Nat, ∃ tt : Int, k ≤ m ∧ i = .int .i64 k ∧ t = .int .i64 tt) (fun _ i => m - (intOf i).toNat)
      case atStart => exact ⟨0, _, Nat.zero_le _, rfl, rfl⟩
      case round =>
        obtain ⟨k2, tt2, hk2, rfl, rfl⟩ := hrel
        by_cases hkm : k2 < m
        · have hcell2 := hd k2 hkm
          have hz2 := htz k2 hkm
          clear hd htz
          go_wp2
          · go_ret
            exact ⟨someBool _, rfl⟩
          · go_ret
            exact ⟨someBool _, rfl⟩
          · go_round
            case rel => exact ⟨k2 + 1, _, by omega, by go_num, rfl⟩
            case measure => simp [intOf]; omega
        · go_wp2
          all_goals
            go_ret
            exact ⟨someBool _, rfl⟩

set_option maxHeartbeats 800000 in
theorem bytes14_ee (a : Option Addr) (d : Option Addr) (c c2 : Nat) (av : Option Addr) (nv cv : Nat) (fl : Int) (x : ByteArray) (v : Int) (w : World) (_hx : x.size ≤ 9223372036854775807) :
    Calls Try.prog 14 #[.slice a 0 c, .slice av nv cv, .int .u64 fl, .slice d 0 c2, .string x, .int .u64 v] w fun e w' => SomeBool e ∧ w' = w := by
  go_enter Try.func14, Try.ntmps14
  go_wp2
  refine wp_loop_rounds 1 ?_
  rw [rounds_succ]
  go_wp2
  all_goals first | (go_ret; exact ⟨someBool _, rfl⟩) | skip
  refine wp_loop_rounds 1 ?_
  rw [rounds_succ]
  go_wp2
  all_goals
    go_ret
    exact ⟨someBool _, rfl⟩

set_option maxHeartbeats 800000 in
theorem bytes14_es (a : Option Addr) (b2 off2 m : Nat) (c c2 : Nat) (T : Nat → ByteArray) (av : Option Addr) (nv cv : Nat) (fl : Int) (x : ByteArray) (v : Int) (w : World) (_hx : x.size ≤ 9223372036854775807) (hm2 : m ≤ 9223372036854775807) (htz : ∀ i, i < m → (T i).size ≤ 9223372036854775807) (hd : ∀ i, i < m → w.cell? ⟨b2, off2 + i, none⟩ = some (.string (T i))) :
    Calls Try.prog 14 #[.slice a 0 c, .slice av nv cv, .int .u64 fl, .slice (some ⟨b2, off2, none⟩) m c2, .string x, .int .u64 v] w fun e w' => SomeBool e ∧ w' = w := by
  go_enter Try.func14, Try.ntmps14
  go_wp2
  refine wp_loop_rounds 1 ?_
  rw [rounds_succ]
  go_wp2
  all_goals first | (go_ret; exact ⟨someBool _, rfl⟩) | skip
  go_loop [13, 15] (fun t i => ∃ k : Nat, ∃ tt : Int, k ≤ m ∧ i = .int .i64 k ∧ t = .int .i64 tt) (fun _ i => m - (intOf i).toNat)
  case atStart => exact ⟨0, _, Nat.zero_le _, rfl, rfl⟩
  case round =>
    obtain ⟨k2, tt2, hk2, rfl, rfl⟩ := hrel
    by_cases hkm : k2 < m
    · have hcell2 := hd k2 hkm
      have hz2 := htz k2 hkm
      clear hd htz
      go_wp2
      · go_ret
        exact ⟨someBool _, rfl⟩
      · go_ret
        exact ⟨someBool _, rfl⟩
      · go_round
        case rel => exact ⟨k2 + 1, _, by omega, by go_num, rfl⟩
        case measure => simp [intOf]; omega
    · go_wp2
      all_goals
        go_ret
        exact ⟨someBool _, rfl⟩

set_option maxHeartbeats 800000 in
theorem bytes14_se (b off n : Nat) (d : Option Addr) (c c2 : Nat) (S : Nat → ByteArray) (av : Option Addr) (nv cv : Nat) (fl : Int) (x : ByteArray) (v : Int) (w : World) (_hx : x.size ≤ 9223372036854775807) (hm : n ≤ 9223372036854775807) (hsz : ∀ i, i < n → (S i).size ≤ 9223372036854775807) (hc : ∀ i, i < n → w.cell? ⟨b, off + i, none⟩ = some (.string (S i))) (h20 : ¬ 1048576 < n) :
    Calls Try.prog 14 #[.slice (some ⟨b, off, none⟩) n c, .slice av nv cv, .int .u64 fl, .slice d 0 c2, .string x, .int .u64 v] w fun e w' => SomeBool e ∧ w' = w := by
  go_enter Try.func14, Try.ntmps14
  go_wp2
  go_loop [13, 14] (fun t i => ∃ k : Nat, ∃ tt : Int, k ≤ n ∧ i = .int .i64 k ∧ t = .int .i64 tt) (fun _ i => n - (intOf i).toNat)
  case atStart => exact ⟨0, _, Nat.zero_le _, rfl, rfl⟩
  case round =>
    obtain ⟨k, tt, hk, rfl, rfl⟩ := hrel
    by_cases hkn : k < n
    · have hcell := hc k hkn
      have hz := hsz k hkn
      clear hc hsz
      go_wp2
      · go_ret
        exact ⟨someBool _, rfl⟩
      · go_ret
        exact ⟨someBool _, rfl⟩
      · go_round
        case rel => exact ⟨k + 1, _, by omega, by go_num, rfl⟩
        case measure => simp [intOf]; omega
    · go_wp2
      all_goals first | (go_ret; exact ⟨someBool _, rfl⟩) | skip
      refine wp_loop_rounds 1 ?_
      rw [rounds_succ]
      go_wp2
      all_goals
        go_ret
        exact ⟨someBool _, rfl⟩

set_option maxHeartbeats 800000 in
theorem bytes14_ss (b off n : Nat) (b2 off2 m : Nat) (c c2 : Nat) (S : Nat → ByteArray) (T : Nat → ByteArray) (av : Option Addr) (nv cv : Nat) (fl : Int) (x : ByteArray) (v : Int) (w : World) (_hx : x.size ≤ 9223372036854775807) (hm : n ≤ 9223372036854775807) (hsz : ∀ i, i < n → (S i).size ≤ 9223372036854775807) (hc : ∀ i, i < n → w.cell? ⟨b, off + i, none⟩ = some (.string (S i))) (h20 : ¬ 1048576 < n) (hm2 : m ≤ 9223372036854775807) (htz : ∀ i, i < m → (T i).size ≤ 9223372036854775807) (hd : ∀ i, i < m → w.cell? ⟨b2, off2 + i, none⟩ = some (.string (T i))) :
    Calls Try.prog 14 #[.slice (some ⟨b, off, none⟩) n c, .slice av nv cv, .int .u64 fl, .slice (some ⟨b2, off2, none⟩) m c2, .string x, .int .u64 v] w fun e w' => SomeBool e ∧ w' = w := by
  go_enter Try.func14, Try.ntmps14
  go_wp2
  go_loop [13, 14] (fun t i => ∃ k : Nat, ∃ tt : Int, k ≤ n ∧ i = .int .i64 k ∧ t = .int .i64 tt) (fun _ i => n - (intOf i).toNat)
  case atStart => exact ⟨0, _, Nat.zero_le _, rfl, rfl⟩
  case round =>
    obtain ⟨k, tt, hk, rfl, rfl⟩ := hrel
    by_cases hkn : k < n
    · have hcell := hc k hkn
      have hz := hsz k hkn
      clear hc hsz
      go_wp2
      · go_ret
        exact ⟨someBool _, rfl⟩
      · go_ret
        exact ⟨someBool _, rfl⟩
      · go_round
        case rel => exact ⟨k + 1, _, by omega, by go_num, rfl⟩
        case measure => simp [intOf]; omega
    · go_wp2
      all_goals first | (go_ret; exact ⟨someBool _, rfl⟩) | skip
      go_loop [13, 15] (fun t i => ∃ k : Nat, ∃ tt : Int, k ≤ m ∧ i = .int .i64 k ∧ t = .int .i64 tt) (fun _ i => m - (intOf i).toNat)
      case atStart => exact ⟨0, _, Nat.zero_le _, rfl, rfl⟩
      case round =>
        obtain ⟨k2, tt2, hk2, rfl, rfl⟩ := hrel
        by_cases hkm : k2 < m
        · have hcell2 := hd k2 hkm
          have hz2 := htz k2 hkm
          clear hd htz
          go_wp2
          · go_ret
            exact ⟨someBool _, rfl⟩
          · go_ret
            exact ⟨someBool _, rfl⟩
          · go_round
            case rel => exact ⟨k2 + 1, _, by omega, by go_num, rfl⟩
            case measure => simp [intOf]; omega
        · go_wp2
          all_goals
            go_ret
            exact ⟨someBool _, rfl⟩

set_option maxHeartbeats 400000 in
theorem bytes9_any (a d : Option Addr) (n c m c2 : Nat) (S T : Nat → ByteArray) (av : Option Addr) (nv cv : Nat) (fl : Int) (w : World) (hs : Strs w a n S) (ht : Strs w d m T) :
    Calls Try.prog 9 #[.slice a n c, .slice av nv cv, .int .u64 fl, .slice d m c2] w fun e w' => SomeBool e ∧ w' = w := by
  obtain ⟨hm, hsz, hs⟩ := hs
  obtain ⟨hm2, htz, ht⟩ := ht
  unfold maxLen at *
  by_cases h20 : 1048576 < n
  · clear hs ht hsz htz
    go_enter Try.func9, Try.ntmps9
    go_wp2
    go_ret
    exact ⟨someBool _, rfl⟩
  rcases hs with rfl | ⟨b, off, rfl, hlt, hc⟩
  · rcases ht with rfl | ⟨b2, off2, rfl, hlt2, hd⟩
    · exact bytes9_ee a d c c2 av nv cv fl w
    · exact bytes9_es a b2 off2 m c c2 T av nv cv fl w hm2 htz hd
  · rcases ht with rfl | ⟨b2, off2, rfl, hlt2, hd⟩
    · exact bytes9_se b off n d c c2 S av nv cv fl w hm hsz hc h20
    · exact bytes9_ss b off n b2 off2 m c c2 S T av nv cv fl w hm hsz hc h20 hm2 htz hd

set_option maxHeartbeats 400000 in
theorem bytes14_any (a d : Option Addr) (n c m c2 : Nat) (S T : Nat → ByteArray) (av : Option Addr) (nv cv : Nat) (fl : Int) (x : ByteArray) (v : Int) (w : World) (hx : x.size ≤ maxLen) (hs : Strs w a n S) (ht : Strs w d m T) :
    Calls Try.prog 14 #[.slice a n c, .slice av nv cv, .int .u64 fl, .slice d m c2, .string x, .int .u64 v] w fun e w' => SomeBool e ∧ w' = w := by
  obtain ⟨hm, hsz, hs⟩ := hs
  obtain ⟨hm2, htz, ht⟩ := ht
  unfold maxLen at *
  by_cases h20 : 1048576 < n
  · clear hs ht hsz htz
    go_enter Try.func14, Try.ntmps14
    go_wp2
    go_ret
    exact ⟨someBool _, rfl⟩
  rcases hs with rfl | ⟨b, off, rfl, hlt, hc⟩
  · rcases ht with rfl | ⟨b2, off2, rfl, hlt2, hd⟩
    · exact bytes14_ee a d c c2 av nv cv fl x v w hx
    · exact bytes14_es a b2 off2 m c c2 T av nv cv fl x v w hx hm2 htz hd
  · rcases ht with rfl | ⟨b2, off2, rfl, hlt2, hd⟩
    · exact bytes14_se b off n d c c2 S av nv cv fl x v w hx hm hsz hc h20
    · exact bytes14_ss b off n b2 off2 m c c2 S T av nv cv fl x v w hx hm hsz hc h20 hm2 htz hd

end Go.Proofs.Qxb6617097a
