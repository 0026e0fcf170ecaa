/-
  Seat b6617097a: the contracts over whatever slices; the plain laws on 'newest'.
-/
import Derived.Test.Qxb6617097aNewest
import Derived.Deep.OwnRows
import Derived.Laws.CopyOwn
namespace Go.Proofs.Qxb6617097a
open Go.RowKit Go.Maps

/-- What newest answers. -/
def newestR (fl : Int) (g : List UInt8 → Option Int) (T : Nat → ByteArray) (m : Nat) : Int := if m = 0 then 0 else newestV fl g T m

/-! ### the plain laws -/
theorem newestV_fl (fl : Int) (g : List UInt8 → Option Int) (T : Nat → ByteArray) : ∀ k, fl ≤ newestV fl g T k
  | 0 => Int.le_refl _
  | k + 1 => by
    have ih := newestV_fl fl g T k
    unfold newestV
    split
    · split <;> omega
    · exact ih

theorem newestV_mono (fl : Int) (g : List UInt8 → Option Int) (T : Nat → ByteArray) (k : Nat) : newestV fl g T k ≤ newestV fl g T (k + 1) := by
  show _ ≤ (match g (T k).data.toList with
    | some v => if newestV fl g T k < v then v else newestV fl g T k
    | none => newestV fl g T k)
  split
  · split <;> omega
  · omega

theorem newestV_up (fl : Int) (g : List UInt8 → Option Int) (T : Nat → ByteArray) : ∀ k j, j < k → ∀ v, g (T j).data.toList = some v → v ≤ newestV fl g T k
  | 0, j, h, _, _ => absurd h (Nat.not_lt_zero j)
  | k + 1, j, h, v, hv => by
    by_cases e : j = k
    · subst e
      by_cases hlt : newestV fl g T j < v
      · rw [newestV_lt hv hlt]; omega
      · rw [newestV_ge hv hlt]; omega
    · exact Int.le_trans (newestV_up fl g T k j (by omega) v hv) (newestV_mono fl g T k)

theorem reachB_iff {r fl : Int} {g : List UInt8 → Option Int} {T : Nat → ByteArray} : ∀ {k : Nat}, reachB r fl g T k = true ↔ (r = fl ∨ ∃ j, j < k ∧ g (T j).data.toList = some r)
  | 0 => by simp [reachB]
  | k + 1 => by
    have ih := reachB_iff (r := r) (fl := fl) (g := g) (T := T) (k := k)
    unfold reachB
    rw [Bool.or_eq_true, ih]
    constructor
    · rintro ((h | ⟨j, hj, h⟩) | h)
      · exact Or.inl h
      · exact Or.inr ⟨j, by omega, h⟩
      · exact Or.inr ⟨k, by omega, by simpa using h⟩
    · rintro (h | ⟨j, hj, h⟩)
      · exact Or.inl (Or.inl h)
      · by_cases e : j = k
        · subst e; exact Or.inr (by simpa using h)
        · exact Or.inl (Or.inr ⟨j, by omega, h⟩)

theorem newestV_reach (fl : Int) (g : List UInt8 → Option Int) (T : Nat → ByteArray) : ∀ k, newestV fl g T k = fl ∨ ∃ j, j < k ∧ g (T j).data.toList = some (newestV fl g T k)
  | 0 => Or.inl rfl
  | k + 1 => by
    have ih := newestV_reach fl g T k
    rcases hg : g (T k).data.toList with _ | v
    · rw [newestV_none hg]
      rcases ih with h | ⟨j, hj, h⟩
      · exact Or.inl h
      · exact Or.inr ⟨j, by omega, h⟩
    · by_cases hlt : newestV fl g T k < v
      · rw [newestV_lt hg hlt]
        exact Or.inr ⟨k, by omega, hg⟩
      · rw [newestV_ge hg hlt]
        rcases ih with h | ⟨j, hj, h⟩
        · exact Or.inl h
        · exact Or.inr ⟨j, by omega, h⟩

/-- The map and the list of records say one thing. -/
theorem last_tie (N : Nat) (S : Nat → ByteArray) (V : Nat → Int) (t : List UInt8) : ∀ k, (lastB N S k t = none ∧ lastV S V k t = none) ∨ ∃ j, j < k ∧ lastB N S k t = some (N + 2 + j) ∧ lastV S V k t = some (V j)
  | 0 => Or.inl ⟨rfl, rfl⟩
  | k + 1 => by
    by_cases e : t = (S k).data.toList
    · subst e
      exact Or.inr ⟨k, by omega, upd_same, lastV_hit rfl⟩
    · have e1 : lastB N S (k + 1) t = lastB N S k t := upd_other e
      rw [e1, lastV_miss e]
      rcases last_tie N S V t k with h | ⟨j, hj, h⟩
      · exact Or.inl h
      · exact Or.inr ⟨j, by omega, h⟩

/-! ### the contracts -/
theorem newest_any (W N q m c : Nat) (d : Option Addr) (T : Nat → ByteArray) (fl : Int) (f : List UInt8 → Option Nat) (g : List UInt8 → Option Int) (w : World) (ht : Strs w d m T)
    (hmp : Mp w N q f) (hmap : w.cell? ⟨W, 0, none⟩ = some (.map (some N))) (hfl : w.cell? ⟨W, 4, none⟩ = some (.int .u64 fl))
    (hg : ∀ s, (f s = none ∧ g s = none) ∨ ∃ x v, f s = some x ∧ g s = some v ∧ w.cell? ⟨x, 1, none⟩ = some (.int .u64 v)) :
    Calls Try.prog 12 #[.pointer (some ⟨W, 0, none⟩), .slice d m c] w fun e w' => e = .returned (.int .u64 (newestR fl g T m)) ∧ w' = w := by
  have key : Calls Try.prog 30 #[.pointer (some ⟨W, 0, none⟩), .slice d m c] w fun e w' => e = .returned (.int .u64 (newestR fl g T m)) ∧ w' = w := by
    obtain ⟨hm, hsz, ht⟩ := ht
    by_cases h0 : m = 0
    · subst h0
      exact newest_none W d c w
    · rcases ht with h | ⟨b, off, rfl, hlt, hc⟩
      · exact absurd h h0
      · have e : newestR fl g T m = newestV fl g T m := if_neg h0
        rw [e]
        exact newest_some W N q b off m c T fl f g w (by omega) (by unfold maxLen at hm; exact hm) hsz hc hmp hmap hfl hg
  have HK := hide key
  clear key hg hmp hmap hfl ht
  go_enter Try.func12, Try.ntmps12
  go_wp2_with (go_at_call 30; refine HK.out.mono ?_; rintro e w' ⟨rfl, hw⟩; obtain rfl := hw.symm)
  go_ret
  exact ⟨rfl, rfl⟩

theorem isNewest_any (fl : Int) (a a2 d : Option Addr) (n c c2 m c3 : Nat) (g : List UInt8 → Option Int) (T : Nat → ByteArray) (w : World) (hm4 : m ≤ 4096) (ht : Strs w d m T)
    (hl : ∀ key : ByteArray, Calls Try.prog 31 #[.slice a n c, .slice a2 n c2, .string key] w fun e w' => e = .returned (.tuple #[.int .u64 ((g key.data.toList).getD 0), .bool (g key.data.toList).isSome]) ∧ w' = w) :
    Calls Try.prog 13 #[.int .u64 (newestR fl g T m), .slice a n c, .slice a2 n c2, .int .u64 fl, .slice d m c3] w fun e w' => e = .returned (.bool true) ∧ w' = w := by
  obtain ⟨hm, hsz, ht⟩ := ht
  by_cases h0 : m = 0
  · subst h0
    exact isNewest_none a a2 d n c n c2 c3 fl w
  · rcases ht with h | ⟨b, off, rfl, hlt, hc⟩
    · exact absurd h h0
    · have e : newestR fl g T m = newestV fl g T m := if_neg h0
      rw [e]
      exact isNewest_some _ fl a a2 n c c2 b off m c3 g T w (by omega) (by omega) hc hl (newestV_fl fl g T m) (fun j hj v hv => newestV_up fl g T m j hj v hv) (reachB_iff.2 (newestV_reach fl g T m))

theorem writersOf_any (a a2 : Option Addr) (n c c2 : Nat) (S : Nat → ByteArray) (V : Nat → Int) (fl : Int) (w : World) (hn : n ≤ 9223372036854775806) (hs : Strs w a n S) (hv : U64s w a2 n V) :
    Calls Try.prog 11 #[.slice a n c, .slice a2 n c2, .int .u64 fl] w fun e w' => e = .returned (.pointer (some ⟨w.heap.size + 1, 0, none⟩)) ∧ Recs w S V fl w.heap.size n w' := by
  obtain ⟨_, hsz, hs⟩ := hs
  obtain ⟨_, hv⟩ := hv
  rcases hs with rfl | ⟨b, off, rfl, hlt, hc⟩
  · exact writersOf_none a a2 c c2 S V fl w
  · rcases hv with rfl | ⟨b2, off2, rfl, hlt2, hd⟩
    · exact writersOf_none _ a2 c c2 S V fl w
    · exact writersOf_some b off b2 off2 n c c2 S V fl w hn hlt hlt2 hsz hc hd

/-- What newest asks of the world behind the records. -/
theorem Recs.look {w wr : World} {S : Nat → ByteArray} {V : Nat → Int} {fl : Int} {N n : Nat} (h : Recs w S V fl N n wr) (s : List UInt8) :
    (lastB N S n s = none ∧ lastV S V n s = none) ∨ ∃ x v, lastB N S n s = some x ∧ lastV S V n s = some v ∧ wr.cell? ⟨x, 1, none⟩ = some (.int .u64 v) := by
  rcases last_tie N S V s n with h0 | ⟨j, hj, h1, h2⟩
  · exact Or.inl h0
  · exact Or.inr ⟨_, _, h1, h2, h.ver j hj⟩

end Go.Proofs.Qxb6617097a
