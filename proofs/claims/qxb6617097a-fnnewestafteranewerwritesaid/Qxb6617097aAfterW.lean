/-
  Seat b6617097a: the walk of FnNewestAfterANewerWrite.
-/
import Derived.Test.Qxb6617097aAfterP
namespace Go.Proofs.Qxb6617097a
open Go.RowKit Go.Maps

/-- The world behind the one write more, as newest asks of it. -/
theorem recs_after {w wr w1 : World} {S : Nat → ByteArray} {V : Nat → Int} {fl v : Int} {N n : Nat} {key : ByteArray} (h : Recs w S V fl N n wr) 
    (hg : (wr.alloc (.cells (nodeCells key v) 53)).grownBy w1 (some N)) :
    w1.cell? ⟨N + 1, 0, none⟩ = some (.map (some N)) ∧ w1.cell? ⟨N + 1, 4, none⟩ = some (.int .u64 fl) ∧ Below N w w1 ∧
      ∀ s, (upd (lastB N S n) key.data.toList wr.heap.size s = none ∧ updV (lastV S V n) key.data.toList v s = none) ∨ ∃ x y, upd (lastB N S n) key.data.toList wr.heap.size s = some x ∧ updV (lastV S V n) key.data.toList v s = some y ∧ w1.cell? ⟨x, 1, none⟩ = some (.int .u64 y) := by
  obtain ⟨h1, h2, h3, h4, h5, h6⟩ := h
  have hc : ∀ b o u, b ≠ N → wr.cell? ⟨b, o, none⟩ = some u → w1.cell? ⟨b, o, none⟩ = some u := fun b o u hb hu =>
    hg.cell (by rw [World.cell?_alloc_lt _ _ _ (World.block_lt_of_cell? _ _ hu)]; exact hu) (by simpa using hb)
  refine ⟨hc _ _ _ (by omega) h3, hc _ _ _ (by omega) h4, (h1.alloc (by omega) _).grown hg (by simp; omega) (fun j hj => by cases hj; exact Nat.le_refl _), fun s => ?_⟩
  by_cases e : s = key.data.toList
  · subst e
    refine Or.inr ⟨_, _, upd_same, updV_same, hg.cell ?_ (by simp; omega)⟩
    rw [World.cell?_alloc_at _ _ _ _ rfl]
    rfl
  · rw [upd_other e, updV_other e]
    rcases last_tie N S V s n with h0 | ⟨j, hj, e1, e2⟩
    · exact Or.inl h0
    · exact Or.inr ⟨_, _, e1, e2, hc _ _ _ (by omega) (h6 j hj)⟩

theorem le_next {V : Nat → Int} {v : Int} {k : Nat} (h : ∀ j, j < k → V j ≤ v) (hk : V k ≤ v) : ∀ j, j < k + 1 → V j ≤ v := fun j hj => by
  by_cases e : j = k
  · subst e; exact hk
  · exact h j (by omega)

set_option maxRecDepth 100000 in
set_option maxHeartbeats 2000000 in
theorem after_some (a a2 : Option Addr) (ad : Addr) (n c c2 m c3 : Nat) (S T : Nat → ByteArray) (V : Nat → Int) (fl v : Int) (key : ByteArray) (w : World) (hn : n ≤ 4096) (hm : m ≤ 4096) (hk : key.size ≤ maxLen)
    (hs : Strs w a n S) (hv : U64s w a2 n V) (ht : Strs w (some ad) m T) :
    Calls Try.prog 4 #[.slice a n c, .slice a2 n c2, .int .u64 fl, .slice (some ad) m c3, .string key, .int .u64 v] w fun e w' => e = .returned (.bool true) ∧ Below w.heap.size w w' := by
  have hb := hide (bytes14_any a (some ad) n c m c3 S T a2 n c2 fl key v w hk hs ht)
  have hne := fun (w : World) (a : Option Addr) (n c : Nat) => run_neq_slice_nil_any (P := Try.prog) w 22 9 a n c 0 0 Try.underlying22
  have hmk := run_make_row' (P := Try.prog) 22 9 (.string ByteArray.empty) 16 Try.underlying22 info9 rfl .i64 .i64 m (by omega) (by omega)
  go_enter Try.func4, Try.ntmps4
  go_wp2_with (first | (go_at_call 14; refine hb.out.mono ?_; rintro e w' ⟨⟨t, rfl⟩, hw⟩; obtain rfl := hw.symm) | (refine wpList_copy_strs rfl (.tmp 47) (.tmp 48) rfl ad m c3 T ht rfl rfl ?_))
  · go_ret
    exact ⟨rfl, Below.refl _ _⟩
  intro w1 ht1 hB1
  have hs1 := hs.below hB1 (Nat.le_refl _)
  have hv1 := hv.below hB1 (Nat.le_refl _)
  have hl1 := hide (stringBytes_any a n c S 0 w1 hs1)
  have hl2 := hide (fun t0 => stringBytes_any (some ⟨w.heap.size, 0, none⟩) m m T t0 w1 ht1)
  have hl3 := hide (writersOf_any a a2 n c c2 S V fl w1 (by omega) hs1 hv1)
  clear hs hv ht hb hne hmk
  go_wp2_with (first
    | (go_at_call_of 10 (Value.slice a n c); refine hl1.out.mono ?_; rintro e w' ⟨⟨t1, rfl⟩, hw⟩; obtain rfl := hw.symm)
    | (go_at_call_of 10 (Value.slice (some ⟨w.heap.size, 0, none⟩) m m); refine (hl2.out _).mono ?_; rintro e w' ⟨⟨t2, rfl⟩, hw⟩; obtain rfl := hw.symm))
  all_goals first | (go_ret; exact ⟨rfl, hB1⟩) | skip
  go_loopg [15] n (fun gk i wr => wr = w1 ∧ ∃ k : Nat, k ≤ n ∧ gk = n - k ∧ i = .int .i64 k ∧ Hid (∀ j, j < k → V j ≤ v))
  case atStart => exact ⟨rfl, 0, Nat.zero_le _, rfl, rfl, fun j hj => absurd hj (Nat.not_lt_zero j)⟩
  case round =>
    obtain ⟨hw, k, hkn, rfl, rfl, HV⟩ := hrel
    subst hw
    by_cases hlt : k < n
    · obtain ⟨b2, off2, rfl, hblt, hd⟩ : ∃ b off, a2 = some ⟨b, off, none⟩ ∧ b < wr.heap.size ∧ ∀ i, i < n → wr.cell? ⟨b, off + i, none⟩ = some (.int .u64 (V i)) := by
        rcases hv1.2 with h | h
        · omega
        · exact h
      have hcell := hd k hlt
      clear hd hl1 hl2 hl3 hs1 ht1
      by_cases hvk : v < V k
      · go_wp2
        go_ret
        exact ⟨rfl, hB1⟩
      · go_wp2
        go_roundg (n - (k + 1))
        case rel => exact ⟨rfl, k + 1, by omega, rfl, by go_num, le_next HV.out (by omega)⟩
        case measure => omega
    · obtain rfl : n = k := by omega
      have hle : ∀ t x, lastV S V n t = some x → x ≤ v := lastV_le HV.out
      have HLE := hide hle
      clear hle HV
      go_wp2_with (go_at_call 11; refine hl3.out.mono ?_; rintro e w2 ⟨rfl, hr⟩)
      have hs2 := hs1.below hr.below (Nat.le_refl _)
      have hv2 := hv1.below hr.below (Nat.le_refl _)
      have ht2 := ht1.below hr.below (Nat.le_refl _)
      refine (newest_any (wr.heap.size + 1) wr.heap.size n m m (some ⟨w.heap.size, 0, none⟩) T fl _ _ w2 ht2 hr.mp hr.map hr.floor hr.look).mono ?_
      rintro e w' ⟨rfl, hw⟩
      obtain rfl := hw.symm
      have hset := hide (set_any (wr.heap.size + 1) w2.heap.size wr.heap.size n key _ (w2.alloc (.cells (nodeCells key v) 53)) hk (by unfold maxLen; omega) (hr.mp.alloc _)
        (by rw [World.cell?_alloc_lt _ _ _ (World.block_lt_of_cell? _ _ hr.map)]; exact hr.map) (by rw [World.cell?_alloc_at _ _ _ _ rfl]; rfl))
      clear hl1 hl2 hl3
      go_wp2_with (first
        | (go_at_call 16; refine (node_any _ _ _).mono ?_; rintro e w' ⟨rfl, hw⟩; obtain rfl := hw.symm)
        | (go_at_call 15; refine hset.out.mono ?_; rintro e w4 ⟨rfl, hm4, hg4, hz4, _⟩))
      obtain ⟨c0, c4, hB4, hlook⟩ := recs_after hr hg4
      have hs4 := hs1.below hB4 (Nat.le_refl _)
      have hv4 := hv1.below hB4 (Nat.le_refl _)
      have ht4 := ht1.below hB4 (Nat.le_refl _)
      refine (newest_any (wr.heap.size + 1) wr.heap.size (n + 1) m m (some ⟨w.heap.size, 0, none⟩) T fl _ _ w4 ht4 hm4 c0 c4 hlook).mono ?_
      rintro e w' ⟨rfl, hw⟩
      obtain rfl := hw.symm
      have hq := hide (isNewest_any fl a a2 (some ⟨w.heap.size, 0, none⟩) n c c2 m m (lastV S V n) T w4 hm ht4 (fun key => lastVersion_any a a2 n c c2 S V key w4 (by omega) hs4 hv4))
      have hB := hB1.trans (hB4.mono hB1.size)
      clear hset hs1 hv1 ht1 hs2 hv2 ht2 hs4 hv4 hr hm4 hg4 hz4 c0 c4 hlook hB4 hB1
      go_wp2_with (go_at_call 13; refine hq.out.mono ?_; rintro e w' ⟨rfl, hw⟩; obtain rfl := hw.symm)
      go_loopg [19, 20] m (fun gk t i wx => wx = w4 ∧ ∃ j : Nat, j ≤ m ∧ gk = m - j ∧ i = .int .i64 j ∧ t = .bool (askedB key T j))
      case atStart => exact ⟨rfl, 0, Nat.zero_le _, rfl, rfl, rfl⟩
      case round =>
        obtain ⟨hw, j, hj, rfl, rfl, rfl⟩ := hrel
        subst hw
        by_cases hjm : j < m
        · have hcell : wr.cell? ⟨w.heap.size, j, none⟩ = some (.string (T j)) := by have := ht4.at hjm; rwa [Nat.zero_add] at this
          cases hkj : ((T j).toList == key.toList) with
          | true =>
            have HS := hide (askedB_hit hkj)
            go_wp2
            go_roundg (m - (j + 1))
            case rel => exact ⟨rfl, j + 1, by omega, rfl, by go_num, by rw [HS.out]⟩
            case measure => omega
          | false =>
            have HS := hide (askedB_miss hkj)
            go_wp2
            go_roundg (m - (j + 1))
            case rel => exact ⟨rfl, j + 1, by omega, rfl, by go_num, by rw [HS.out]⟩
            case measure => omega
        · obtain rfl : m = j := by omega
          cases hA : askedB key T m with
          | true =>
            obtain ⟨e1, e2⟩ := after_asked (fl := fl) HLE.out hA
            have t1 : (newestR fl (updV (lastV S V n) key.data.toList v) T m == maxV (newestR fl (lastV S V n) T m) v) = true := by rw [← e1]; simp
            have t2 : (newestR fl (updV (lastV S V n) key.data.toList v) T m == maxV fl v) = true := by rw [← e2]; simp
            clear e1 e2 HLE hq ht4
            go_wp2_with (go_at_call 17; refine (zzMax_any _ _ _).mono ?_; rintro e w' ⟨rfl, hw⟩; obtain rfl := hw.symm)
            go_ret
            exact ⟨rfl, hB⟩
          | false =>
            have e1 := after_unasked (fl := fl) HLE.out hA
            have t1 : (newestR fl (updV (lastV S V n) key.data.toList v) T m == newestR fl (lastV S V n) T m) = true := by rw [e1]; simp
            clear e1 HLE hq ht4
            go_wp2
            go_ret
            exact ⟨rfl, hB⟩

set_option maxRecDepth 100000 in
set_option maxHeartbeats 2000000 in
/-- The query is nil. -/
theorem after_nil (a a2 : Option Addr) (n c c2 : Nat) (S : Nat → ByteArray) (V : Nat → Int) (fl v : Int) (key : ByteArray) (w : World) (hn : n ≤ 4096) (hk : key.size ≤ maxLen)
    (hs : Strs w a n S) (hv : U64s w a2 n V) :
    Calls Try.prog 4 #[.slice a n c, .slice a2 n c2, .int .u64 fl, .slice none 0 0, .string key, .int .u64 v] w fun e w' => e = .returned (.bool true) ∧ Below w.heap.size w w' := by
  have ht : Strs w none 0 S := ⟨Nat.zero_le _, fun i hi => absurd hi (Nat.not_lt_zero i), Or.inl rfl⟩
  have hb := hide (bytes14_any a none n c 0 0 S S a2 n c2 fl key v w hk hs ht)
  have hne := fun (w : World) (a : Option Addr) (n c : Nat) => run_neq_slice_nil_any (P := Try.prog) w 22 9 a n c 0 0 Try.underlying22
  have hl1 := hide (stringBytes_any a n c S 0 w hs)
  have hl2 := hide (fun t0 => stringBytes_any none 0 0 S t0 w ht)
  have hl3 := hide (writersOf_any a a2 n c c2 S V fl w (by omega) hs hv)
  go_enter Try.func4, Try.ntmps4
  go_wp2_with (first
    | (go_at_call 14; refine hb.out.mono ?_; rintro e w' ⟨⟨t, rfl⟩, hw⟩; obtain rfl := hw.symm)
    | (go_at_call_of 10 (Value.slice none 0 0); refine (hl2.out _).mono ?_; rintro e w' ⟨⟨t2, rfl⟩, hw⟩; obtain rfl := hw.symm)
    | (go_at_call_of 10 (Value.slice a n c); refine hl1.out.mono ?_; rintro e w' ⟨⟨t1, rfl⟩, hw⟩; obtain rfl := hw.symm))
  all_goals first | (go_ret; exact ⟨rfl, Below.refl _ _⟩) | skip
  go_loopg [15] n (fun gk i wr => wr = w ∧ ∃ k : Nat, k ≤ n ∧ gk = n - k ∧ i = .int .i64 k ∧ Hid (∀ j, j < k → V j ≤ v))
  case atStart => exact ⟨rfl, 0, Nat.zero_le _, rfl, rfl, fun j hj => absurd hj (Nat.not_lt_zero j)⟩
  case round =>
    obtain ⟨hw, k, hkn, rfl, rfl, HV⟩ := hrel
    subst hw
    by_cases hlt : k < n
    · obtain ⟨b2, off2, rfl, hblt, hd⟩ : ∃ b off, a2 = some ⟨b, off, none⟩ ∧ b < wr.heap.size ∧ ∀ i, i < n → wr.cell? ⟨b, off + i, none⟩ = some (.int .u64 (V i)) := by
        rcases hv.2 with h | h
        · omega
        · exact h
      have hcell := hd k hlt
      clear hd hl1 hl2 hl3 hs ht
      by_cases hvk : v < V k
      · go_wp2
        go_ret
        exact ⟨rfl, Below.refl _ _⟩
      · go_wp2
        go_roundg (n - (k + 1))
        case rel => exact ⟨rfl, k + 1, by omega, rfl, by go_num, le_next HV.out (by omega)⟩
        case measure => omega
    · obtain rfl : n = k := by omega
      have hle : ∀ t x, lastV S V n t = some x → x ≤ v := lastV_le HV.out
      have HLE := hide hle
      clear hle HV
      go_wp2_with (go_at_call 11; refine hl3.out.mono ?_; rintro e w2 ⟨rfl, hr⟩)
      have hs2 := hs.below hr.below (Nat.le_refl _)
      have hv2 := hv.below hr.below (Nat.le_refl _)
      have ht2 := ht.below hr.below (Nat.le_refl _)
      refine (newest_any (wr.heap.size + 1) wr.heap.size n 0 0 none S fl _ _ w2 ht2 hr.mp hr.map hr.floor hr.look).mono ?_
      rintro e w' ⟨rfl, hw⟩
      obtain rfl := hw.symm
      have hset := hide (set_any (wr.heap.size + 1) w2.heap.size wr.heap.size n key _ (w2.alloc (.cells (nodeCells key v) 53)) hk (by unfold maxLen; omega) (hr.mp.alloc _)
        (by rw [World.cell?_alloc_lt _ _ _ (World.block_lt_of_cell? _ _ hr.map)]; exact hr.map) (by rw [World.cell?_alloc_at _ _ _ _ rfl]; rfl))
      clear hl1 hl2 hl3
      go_wp2_with (first
        | (go_at_call 16; refine (node_any _ _ _).mono ?_; rintro e w' ⟨rfl, hw⟩; obtain rfl := hw.symm)
        | (go_at_call 15; refine hset.out.mono ?_; rintro e w4 ⟨rfl, hm4, hg4, hz4, _⟩))
      obtain ⟨c0, c4, hB4, hlook⟩ := recs_after hr hg4
      have hs4 := hs.below hB4 (Nat.le_refl _)
      have hv4 := hv.below hB4 (Nat.le_refl _)
      have ht4 := ht.below hB4 (Nat.le_refl _)
      refine (newest_any (wr.heap.size + 1) wr.heap.size (n + 1) 0 0 none S fl _ _ w4 ht4 hm4 c0 c4 hlook).mono ?_
      rintro e w' ⟨rfl, hw⟩
      obtain rfl := hw.symm
      have hq := hide (isNewest_any fl a a2 none n c c2 0 0 (lastV S V n) S w4 (by omega) ht4 (fun key => lastVersion_any a a2 n c c2 S V key w4 (by omega) hs4 hv4))
      have hB := hB4
      clear hset hs hv ht hs2 hv2 ht2 hs4 hv4 hr hm4 hg4 hz4 c0 c4 hlook
      go_wp2_with (go_at_call 13; refine hq.out.mono ?_; rintro e w' ⟨rfl, hw⟩; obtain rfl := hw.symm)
      refine wp_loop_rounds 1 ?_
      rw [rounds_succ]
      have t1 : (newestR fl (updV (lastV S V n) key.data.toList v) S 0 == newestR fl (lastV S V n) S 0) = true := by simp [newestR]
      clear HLE hq ht4
      go_wp2
      go_ret
      exact ⟨rfl, hB⟩

set_option maxRecDepth 100000 in
set_option maxHeartbeats 2000000 in
/-- The lengths differ. -/
theorem after_ne (a a2 : Option Addr) (ad : Addr) (n c nv c2 m c3 : Nat) (S T : Nat → ByteArray) (fl v : Int) (key : ByteArray) (w : World) (hn : n ≤ 4096) (hnv : nv ≤ 4096) (hm : m ≤ 4096) (hk : key.size ≤ maxLen) (hnn : ¬ nv = n)
    (hs : Strs w a n S) (ht : Strs w (some ad) m T) :
    Calls Try.prog 4 #[.slice a n c, .slice a2 nv c2, .int .u64 fl, .slice (some ad) m c3, .string key, .int .u64 v] w fun e w' => e = .returned (.bool true) ∧ Below w.heap.size w w' := by
  have hb := hide (bytes14_any a (some ad) n c m c3 S T a2 nv c2 fl key v w hk hs ht)
  have hne := fun (w : World) (a : Option Addr) (n c : Nat) => run_neq_slice_nil_any (P := Try.prog) w 22 9 a n c 0 0 Try.underlying22
  have hmk := run_make_row' (P := Try.prog) 22 9 (.string ByteArray.empty) 16 Try.underlying22 info9 rfl .i64 .i64 m (by omega) (by omega)
  go_enter Try.func4, Try.ntmps4
  go_wp2_with (first | (go_at_call 14; refine hb.out.mono ?_; rintro e w' ⟨⟨t, rfl⟩, hw⟩; obtain rfl := hw.symm) | (refine wpList_copy_strs rfl (.tmp 47) (.tmp 48) rfl ad m c3 T ht rfl rfl ?_))
  · go_ret
    exact ⟨rfl, Below.refl _ _⟩
  intro w1 ht1 hB1
  have hs1 := hs.below hB1 (Nat.le_refl _)
  have hl1 := hide (stringBytes_any a n c S 0 w1 hs1)
  have hl2 := hide (fun t0 => stringBytes_any (some ⟨w.heap.size, 0, none⟩) m m T t0 w1 ht1)
  clear hs ht hb hne hmk
  go_wp2_with (first
    | (go_at_call_of 10 (Value.slice a n c); refine hl1.out.mono ?_; rintro e w' ⟨⟨t1, rfl⟩, hw⟩; obtain rfl := hw.symm)
    | (go_at_call_of 10 (Value.slice (some ⟨w.heap.size, 0, none⟩) m m); refine (hl2.out _).mono ?_; rintro e w' ⟨⟨t2, rfl⟩, hw⟩; obtain rfl := hw.symm))
  all_goals
    go_ret
    exact ⟨rfl, hB1⟩

set_option maxRecDepth 100000 in
set_option maxHeartbeats 2000000 in
/-- The lengths differ, the query is nil. -/
theorem after_ne_nil (a a2 : Option Addr) (n c nv c2 : Nat) (S : Nat → ByteArray) (fl v : Int) (key : ByteArray) (w : World) (hn : n ≤ 4096) (hnv : nv ≤ 4096) (hk : key.size ≤ maxLen) (hnn : ¬ nv = n)
    (hs : Strs w a n S) :
    Calls Try.prog 4 #[.slice a n c, .slice a2 nv c2, .int .u64 fl, .slice none 0 0, .string key, .int .u64 v] w fun e w' => e = .returned (.bool true) ∧ Below w.heap.size w w' := by
  have ht : Strs w none 0 S := ⟨Nat.zero_le _, fun i hi => absurd hi (Nat.not_lt_zero i), Or.inl rfl⟩
  have hb := hide (bytes14_any a none n c 0 0 S S a2 nv c2 fl key v w hk hs ht)
  have hne := fun (w : World) (a : Option Addr) (n c : Nat) => run_neq_slice_nil_any (P := Try.prog) w 22 9 a n c 0 0 Try.underlying22
  have hl1 := hide (stringBytes_any a n c S 0 w hs)
  have hl2 := hide (fun t0 => stringBytes_any none 0 0 S t0 w ht)
  clear hs ht
  go_enter Try.func4, Try.ntmps4
  go_wp2_with (first
    | (go_at_call 14; refine hb.out.mono ?_; rintro e w' ⟨⟨t, rfl⟩, hw⟩; obtain rfl := hw.symm)
    | (go_at_call_of 10 (Value.slice none 0 0); refine (hl2.out _).mono ?_; rintro e w' ⟨⟨t2, rfl⟩, hw⟩; obtain rfl := hw.symm)
    | (go_at_call_of 10 (Value.slice a n c); refine hl1.out.mono ?_; rintro e w' ⟨⟨t1, rfl⟩, hw⟩; obtain rfl := hw.symm))
  all_goals
    go_ret
    exact ⟨rfl, Below.refl _ _⟩

set_option maxRecDepth 100000 in
set_option maxHeartbeats 1000000 in
/-- One of the three is longer than 4096. -/
theorem after_long (a a2 d : Option Addr) (n c nv c2 m c3 : Nat) (S T : Nat → ByteArray) (fl v : Int) (key : ByteArray) (w : World) (hk : key.size ≤ maxLen) (hl : 4096 < n ∨ 4096 < nv ∨ 4096 < m) (hs : Strs w a n S) (ht : Strs w d m T) :
    Calls Try.prog 4 #[.slice a n c, .slice a2 nv c2, .int .u64 fl, .slice d m c3, .string key, .int .u64 v] w fun e w' => e = .returned (.bool true) ∧ Below w.heap.size w w' := by
  have hb := hide (bytes14_any a d n c m c3 S T a2 nv c2 fl key v w hk hs ht)
  clear hs ht
  by_cases h1 : 4096 < n
  · clear hl
    go_enter Try.func4, Try.ntmps4
    go_wp2_with (go_at_call 14; refine hb.out.mono ?_; rintro e w' ⟨⟨t, rfl⟩, hw⟩; obtain rfl := hw.symm)
    all_goals
      go_ret
      exact ⟨rfl, Below.refl _ _⟩
  by_cases h2 : 4096 < nv
  · clear hl
    go_enter Try.func4, Try.ntmps4
    go_wp2_with (go_at_call 14; refine hb.out.mono ?_; rintro e w' ⟨⟨t, rfl⟩, hw⟩; obtain rfl := hw.symm)
    all_goals
      go_ret
      exact ⟨rfl, Below.refl _ _⟩
  · have h3 : 4096 < m := by omega
    clear hl
    go_enter Try.func4, Try.ntmps4
    go_wp2_with (go_at_call 14; refine hb.out.mono ?_; rintro e w' ⟨⟨t, rfl⟩, hw⟩; obtain rfl := hw.symm)
    all_goals
      go_ret
      exact ⟨rfl, Below.refl _ _⟩

/-- THE WALK, WHOLE. -/
theorem after_walk (a a2 d : Option Addr) (n c nv c2 m c3 : Nat) (S T : Nat → ByteArray) (V : Nat → Int) (fl v : Int) (key : ByteArray) (w : World) (hs : Strs w a n S) (hv : U64s w a2 nv V) (ht : Strs w d m T) (hd : d = none → m = 0 ∧ c3 = 0) (hk : key.size ≤ maxLen) :
    Calls Try.prog 4 #[.slice a n c, .slice a2 nv c2, .int .u64 fl, .slice d m c3, .string key, .int .u64 v] w fun e w' => e = .returned (.bool true) ∧ Below w.heap.size w w' := by
  by_cases hl : 4096 < n ∨ 4096 < nv ∨ 4096 < m
  · exact after_long a a2 d n c nv c2 m c3 S T fl v key w hk hl hs ht
  · cases d with
    | none =>
      obtain ⟨rfl, rfl⟩ := hd rfl
      by_cases hnn : nv = n
      · subst hnn
        exact after_nil a a2 nv c c2 S V fl v key w (by omega) hk hs hv
      · exact after_ne_nil a a2 n c nv c2 S fl v key w (by omega) (by omega) hk hnn hs
    | some ad =>
      by_cases hnn : nv = n
      · subst hnn
        exact after_some a a2 ad nv c c2 m c3 S T V fl v key w (by omega) (by omega) hk hs hv ht
      · exact after_ne a a2 ad n c nv c2 m c3 S T fl v key w (by omega) (by omega) (by omega) hk hnn hs ht

end Go.Proofs.Qxb6617097a
