/-
  Seat b6617097a: newest, zzLastVersion, zzIsNewestOf, zzMax.
-/
import Derived.Test.Qxb6617097aMapW
namespace Go.Proofs.Qxb6617097a
open Go.RowKit Go.Maps

/-- The greatest of fl and of what g gives at the first k keys. -/
def newestV (fl : Int) (g : List UInt8 → Option Int) (T : Nat → ByteArray) : Nat → Int
  | 0 => fl
  | k + 1 => match g (T k).data.toList with
    | some v => if newestV fl g T k < v then v else newestV fl g T k
    | none => newestV fl g T k

theorem newestV_none {fl : Int} {g : List UInt8 → Option Int} {T : Nat → ByteArray} {k : Nat} (h : g (T k).data.toList = none) : newestV fl g T (k + 1) = newestV fl g T k := by
  simp [newestV, h]
theorem newestV_lt {fl : Int} {g : List UInt8 → Option Int} {T : Nat → ByteArray} {k : Nat} {v : Int} (h : g (T k).data.toList = some v) (hv : newestV fl g T k < v) : newestV fl g T (k + 1) = v := by
  simp [newestV, h, hv]
theorem newestV_ge {fl : Int} {g : List UInt8 → Option Int} {T : Nat → ByteArray} {k : Nat} {v : Int} (h : g (T k).data.toList = some v) (hv : ¬ newestV fl g T k < v) : newestV fl g T (k + 1) = newestV fl g T k := by
  simp [newestV, h, hv]

set_option maxHeartbeats 400000 in
theorem newest_none (W : Nat) (d : Option Addr) (c : Nat) (w : World) :
    Calls Try.prog 30 #[.pointer (some ⟨W, 0, none⟩), .slice d 0 c] w fun e w' => e = .returned (.int .u64 0) ∧ w' = w := by
  go_enter Try.func30, Try.ntmps30
  go_wp2
  go_ret
  exact ⟨rfl, rfl⟩

set_option maxHeartbeats 1000000 in
theorem newest_some (W N q b off m c : Nat) (T : Nat → ByteArray) (fl : Int) (f : List UInt8 → Option Nat) (g : List UInt8 → Option Int) (w : World) (hm0 : 0 < m) (hm : m ≤ 9223372036854775807) (hsz : ∀ i, i < m → (T i).size ≤ maxLen)
    (hc : ∀ i, i < m → w.cell? ⟨b, off + i, none⟩ = some (.string (T i))) (hmp : Mp w N q f) (hmap : w.cell? ⟨W, 0, none⟩ = some (.map (some N))) (hfl : w.cell? ⟨W, 4, none⟩ = some (.int .u64 fl))
    (hg : ∀ s, (f s = none ∧ g s = none) ∨ ∃ x v, f s = some x ∧ g s = some v ∧ w.cell? ⟨x, 1, none⟩ = some (.int .u64 v)) :
    Calls Try.prog 30 #[.pointer (some ⟨W, 0, none⟩), .slice (some ⟨b, off, none⟩) m c] w fun e w' => e = .returned (.int .u64 (newestV fl g T m)) ∧ w' = w := by
  go_enter Try.func30, Try.ntmps30
  go_wp2
  go_loop [5, 19] (fun t i => ∃ k : Nat, k ≤ m ∧ i = .int .i64 k ∧ t = .int .u64 (newestV fl g T k)) (fun _ i => m - (intOf i).toNat)
  case atStart => exact ⟨0, Nat.zero_le _, rfl, rfl⟩
  case round =>
    obtain ⟨k, hk, rfl, rfl⟩ := hrel
    by_cases hkm : k < m
    · have hcell := hc k hkm
      have hrun := hmp.look (hsz k hkm)
      rcases hg (T k).data.toList with ⟨e1, e2⟩ | ⟨x, v, e1, e2, hx⟩
      · rw [e1, pt_none] at hrun
        have HS : Hid (newestV fl g T (k + 1) = newestV fl g T k) := newestV_none e2
        clear hc hsz hg e1 e2 hmp hfl
        go_wp2
        go_round
        case rel => exact ⟨k + 1, by omega, by go_num, by rw [HS.out]⟩
        case measure => simp [intOf]; omega
      · rw [e1, pt_some] at hrun
        by_cases hv : newestV fl g T k < v
        · have HS : Hid (newestV fl g T (k + 1) = v) := newestV_lt e2 hv
          clear hc hsz hg e1 e2 hmp hfl
          go_wp2
          go_round
          case rel => exact ⟨k + 1, by omega, by go_num, by rw [HS.out]⟩
          case measure => simp [intOf]; omega
        · have HS : Hid (newestV fl g T (k + 1) = newestV fl g T k) := newestV_ge e2 hv
          clear hc hsz hg e1 e2 hmp hfl
          go_wp2
          go_round
          case rel => exact ⟨k + 1, by omega, by go_num, by rw [HS.out]⟩
          case measure => simp [intOf]; omega
    · have : k = m := by omega
      subst this
      go_wp2
      go_ret
      exact ⟨rfl, rfl⟩

/-- What the last of the first k records of a key says. -/
def lastV (S : Nat → ByteArray) (V : Nat → Int) : Nat → List UInt8 → Option Int
  | 0 => fun _ => none
  | k + 1 => fun t => if t = (S k).data.toList then some (V k) else lastV S V k t
theorem lastV_hit {S : Nat → ByteArray} {V : Nat → Int} {k : Nat} {t : List UInt8} (h : t = (S k).data.toList) : lastV S V (k + 1) t = some (V k) := by simp [lastV, h]
theorem lastV_miss {S : Nat → ByteArray} {V : Nat → Int} {k : Nat} {t : List UInt8} (h : ¬ t = (S k).data.toList) : lastV S V (k + 1) t = lastV S V k t := by simp [lastV, h]

theorem same_of {a b : ByteArray} (h : (a.toList == b.toList) = true) : b.data.toList = a.data.toList := by
  rw [ByteArray.toList_eq, ByteArray.toList_eq] at h
  have h2 : a.data.toList = b.data.toList := by simpa using h
  exact h2.symm
theorem other_of {a b : ByteArray} (h : (a.toList == b.toList) = false) : ¬ b.data.toList = a.data.toList := by
  rw [ByteArray.toList_eq, ByteArray.toList_eq] at h
  have h2 : a.data.toList ≠ b.data.toList := by simpa using h
  exact fun e => h2 e.symm

theorem ret_two {k : IntKind} {a a' : Int} {b b' : Bool} (h : a = a') (h2 : b = b') : Ending.returned (.tuple #[.int k a, .bool b]) = .returned (.tuple #[.int k a', .bool b']) := by rw [h, h2]

set_option maxHeartbeats 1000000 in
theorem lastVersion_some (b off b2 off2 n c c2 : Nat) (S : Nat → ByteArray) (V : Nat → Int) (key : ByteArray) (w : World) (hn : n ≤ 9223372036854775806)
    (hc : ∀ i, i < n → w.cell? ⟨b, off + i, none⟩ = some (.string (S i))) (hd : ∀ i, i < n → w.cell? ⟨b2, off2 + i, none⟩ = some (.int .u64 (V i))) :
    Calls Try.prog 31 #[.slice (some ⟨b, off, none⟩) n c, .slice (some ⟨b2, off2, none⟩) n c2, .string key] w fun e w' =>
      e = .returned (.tuple #[.int .u64 ((lastV S V n key.data.toList).getD 0), .bool (lastV S V n key.data.toList).isSome]) ∧ w' = w := by
  go_enter Try.func31, Try.ntmps31
  go_wp2
  go_loop [8] (fun i => ∃ k : Nat, k ≤ n ∧ i = .int .i64 ((k : Int) - 1) ∧ lastV S V n key.data.toList = lastV S V k key.data.toList) (fun i => (intOf i + 1).toNat)
  case atStart => exact ⟨n, Nat.le_refl _, rfl, rfl⟩
  case round =>
    obtain ⟨k, hk, rfl, hl⟩ := hrel
    have HL : Hid (lastV S V n key.data.toList = lastV S V k key.data.toList) := hl
    clear hl
    by_cases hkn : 0 < k
    · obtain ⟨j, rfl⟩ : ∃ j, k = j + 1 := ⟨k - 1, by omega⟩
      have hcell := hc j (by omega)
      have hdell := hd j (by omega)
      clear hc hd
      go_wp2
      · go_ret2
        have ht : ((S j).toList == key.toList) = true := by assumption
        have e1 := HL.out.trans (lastV_hit (V := V) (same_of ht))
        exact ⟨ret_two (by rw [e1]; rfl) (by rw [e1]; rfl), rfl⟩
      · have ht : ((S j).toList == key.toList) = false := by assumption
        go_round
        case rel => exact ⟨j, by omega, rfl, HL.out.trans (lastV_miss (other_of ht))⟩
        case measure => simp [intOf]
    · obtain rfl : k = 0 := by omega
      go_wp2
      go_ret2
      have e1 : lastV S V n key.data.toList = none := HL.out
      exact ⟨ret_two (by rw [e1]; rfl) (by rw [e1]; rfl), rfl⟩

theorem lastVersion_none (a a2 : Option Addr) (c c2 : Nat) (key : ByteArray) (w : World) :
    Calls Try.prog 31 #[.slice a 0 c, .slice a2 0 c2, .string key] w fun e w' => e = .returned (.tuple #[.int .u64 0, .bool false]) ∧ w' = w := by
  go_enter Try.func31, Try.ntmps31
  go_wp2
  refine wp_loop_rounds 1 ?_
  rw [rounds_succ]
  go_wp2
  go_ret2
  exact ⟨rfl, rfl⟩

theorem lastVersion_any (a a2 : Option Addr) (n c c2 : Nat) (S : Nat → ByteArray) (V : Nat → Int) (key : ByteArray) (w : World) (hn : n ≤ 9223372036854775806) (hs : Strs w a n S) (hv : U64s w a2 n V) :
    Calls Try.prog 31 #[.slice a n c, .slice a2 n c2, .string key] w fun e w' =>
      e = .returned (.tuple #[.int .u64 ((lastV S V n key.data.toList).getD 0), .bool (lastV S V n key.data.toList).isSome]) ∧ w' = w := by
  obtain ⟨_, _, hs⟩ := hs
  obtain ⟨_, hv⟩ := hv
  rcases hs with rfl | ⟨b, off, rfl, hlt, hc⟩
  · exact lastVersion_none a a2 c c2 key w
  · rcases hv with rfl | ⟨b2, off2, rfl, hlt2, hd⟩
    · exact lastVersion_none _ a2 c c2 key w
    · exact lastVersion_some b off b2 off2 n c c2 S V key w hn hc hd

/-- Is r the floor, or what g gives at one of the first k keys? -/
def reachB (r fl : Int) (g : List UInt8 → Option Int) (T : Nat → ByteArray) : Nat → Bool
  | 0 => r == fl
  | k + 1 => reachB r fl g T k || (g (T k).data.toList == some r)
theorem reachB_none {r fl : Int} {g : List UInt8 → Option Int} {T : Nat → ByteArray} {k : Nat} (h : g (T k).data.toList = none) : reachB r fl g T (k + 1) = reachB r fl g T k := by
  simp [reachB, h]
theorem reachB_other {r fl v : Int} {g : List UInt8 → Option Int} {T : Nat → ByteArray} {k : Nat} (h : g (T k).data.toList = some v) (hv : (v == r) = false) : reachB r fl g T (k + 1) = reachB r fl g T k := by
  have : v ≠ r := by simpa using hv
  simp [reachB, h, this]
theorem reachB_hit {r fl v : Int} {g : List UInt8 → Option Int} {T : Nat → ByteArray} {k : Nat} (h : g (T k).data.toList = some v) (hv : (v == r) = true) : reachB r fl g T (k + 1) = true := by
  have : v = r := by simpa using hv
  simp [reachB, h, this]

theorem isNewest_none (a a2 d : Option Addr) (n c n2 c2 c3 : Nat) (fl : Int) (w : World) :
    Calls Try.prog 13 #[.int .u64 0, .slice a n c, .slice a2 n2 c2, .int .u64 fl, .slice d 0 c3] w fun e w' => e = .returned (.bool true) ∧ w' = w := by
  go_enter Try.func13, Try.ntmps13
  go_wp2
  go_ret
  exact ⟨rfl, rfl⟩

set_option maxHeartbeats 1000000 in
theorem isNewest_some (r fl : Int) (a a2 : Option Addr) (n c c2 b off m c3 : Nat) (g : List UInt8 → Option Int) (T : Nat → ByteArray) (w : World) (hm0 : 0 < m) (hm : m ≤ 9223372036854775806) (hc : ∀ i, i < m → w.cell? ⟨b, off + i, none⟩ = some (.string (T i)))
    (hl : ∀ key : ByteArray, Calls Try.prog 31 #[.slice a n c, .slice a2 n c2, .string key] w fun e w' => e = .returned (.tuple #[.int .u64 ((g key.data.toList).getD 0), .bool (g key.data.toList).isSome]) ∧ w' = w)
    (hr : fl ≤ r) (hle : ∀ j, j < m → ∀ v, g (T j).data.toList = some v → v ≤ r) (hre : reachB r fl g T m = true) :
    Calls Try.prog 13 #[.int .u64 r, .slice a n c, .slice a2 n c2, .int .u64 fl, .slice (some ⟨b, off, none⟩) m c3] w fun e w' => e = .returned (.bool true) ∧ w' = w := by
  have hm00 : ((m : Int) == 0) = false := by simp; omega
  have HL := hide hl
  have HE := hide hre
  have HX := hide hle
  clear hl hre hle
  go_enter Try.func13, Try.ntmps13
  go_wp2
  go_loopg [11, 12] m (fun gk t i wr => wr = w ∧ ∃ k : Nat, k ≤ m ∧ gk = m - k ∧ i = .int .i64 k ∧ t = .bool (reachB r fl g T k))
  case atStart => exact ⟨rfl, 0, Nat.zero_le _, rfl, rfl, rfl⟩
  case round =>
    obtain ⟨hw, k, hk, rfl, rfl, rfl⟩ := hrel
    subst hw
    by_cases hkm : k < m
    · have hcell := hc k hkm
      have hl := HL.out (T k)
      clear HL hc
      rcases hg : g (T k).data.toList with _ | v
      · have HS := hide (reachB_none (r := r) (fl := fl) hg)
        rw [hg] at hl
        have HL := hide hl
        clear hl hg
        go_wp2_with (go_at_call 31; refine HL.out.mono ?_; rintro e w' ⟨rfl, hw⟩; obtain rfl := hw.symm)
        go_roundg (m - (k + 1))
        case rel => exact ⟨rfl, k + 1, by omega, rfl, by go_num, by rw [HS.out]⟩
        case measure => omega
      · have hv := HX.out k hkm v hg
        rw [hg] at hl
        have HL := hide hl
        clear hl
        by_cases hvr : (v == r) = true
        · have HS := hide (reachB_hit (fl := fl) hg hvr)
          clear hg
          go_wp2_with (go_at_call 31; refine HL.out.mono ?_; rintro e w' ⟨rfl, hw⟩; obtain rfl := hw.symm)
          go_roundg (m - (k + 1))
          case rel => exact ⟨rfl, k + 1, by omega, rfl, by go_num, by rw [HS.out]⟩
          case measure => omega
        · have hvr' : (v == r) = false := by simpa using hvr
          have HS := hide (reachB_other (fl := fl) hg hvr')
          clear hg hvr
          go_wp2_with (go_at_call 31; refine HL.out.mono ?_; rintro e w' ⟨rfl, hw⟩; obtain rfl := hw.symm)
          go_roundg (m - (k + 1))
          case rel => exact ⟨rfl, k + 1, by omega, rfl, by go_num, by rw [HS.out]⟩
          case measure => omega
    · have : k = m := by omega
      subst this
      go_wp2
      go_ret
      exact ⟨congrArg (fun x => Ending.returned (Value.bool x)) HE.out, rfl⟩

end Go.Proofs.Qxb6617097a
