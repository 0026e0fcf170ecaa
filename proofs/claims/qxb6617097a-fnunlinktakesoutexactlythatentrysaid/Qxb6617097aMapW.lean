/-
  Seat b6617097a: walks of the makers and of the map's store and look-up.
-/
import Derived.Test.Qxb6617097aMap
import Derived.RegionTactic
import Derived.ChangeAlike
import Derived.Deep.RegionHeld3
import Derived.Deep.LoopGhost
namespace Go.Proofs.Qxb6617097a
open Go.RowKit Go.Maps

theorem hide {p : Prop} (h : p) : Hid p := h

/-- The cells of a new node; of a new 'writers'. -/
def nodeCells (s : ByteArray) (v : Int) : Array Value := #[.string s, .int .u64 v, .pointer none, .pointer none]
def wrCells (B : Nat) (fl : Int) : Array Value := #[.map (some B), .pointer none, .pointer none, .int .i64 0, .int .u64 fl]

theorem node_any (s : ByteArray) (v : Int) (w : World) :
    Calls Try.prog 16 #[.string s, .int .u64 v] w fun e w' => e = .returned (.pointer (some ⟨w.heap.size, 0, none⟩)) ∧ w' = w.alloc (.cells (nodeCells s v) 53) := by
  go_enter Try.func16, Try.ntmps16
  go_wp2
  go_ret
  exact ⟨rfl, rfl⟩

theorem newWriters_any (fl : Int) (w : World) :
    Calls Try.prog 29 #[.int .u64 fl] w fun e w' => e = .returned (.pointer (some ⟨w.heap.size + 1, 0, none⟩)) ∧ w' = (w.alloc (.map #[] 0)).alloc (.cells (wrCells w.heap.size fl) 51) := by
  have hmm := @run_makeMap Try.prog
  go_enter Try.func29, Try.ntmps29
  go_wp2
  go_ret
  exact ⟨rfl, rfl⟩

theorem set_any (W x B n : Nat) (s : ByteArray) (f : List UInt8 → Option Nat) (w : World) (hs : s.size ≤ maxLen) (hn : n < maxLen) (hm : Mp w B n f)
    (h0 : w.cell? ⟨W, 0, none⟩ = some (.map (some B))) (h1 : w.cell? ⟨x, 0, none⟩ = some (.string s)) :
    Calls Try.prog 15 #[.pointer (some ⟨W, 0, none⟩), .pointer (some ⟨x, 0, none⟩)] w fun e w' => e = .returned (.tuple #[]) ∧ Mp w' B (n + 1) (upd f s.data.toList x) ∧ w.grownBy w' (some B) ∧ w'.heap.size = w.heap.size ∧ (∀ a, w'.frozen? a = w.frozen? a) := by
  obtain ⟨w1, hrun, hmp, hgrow, hsize, hfro⟩ := hm.drew.store hn hs x
  have H : Hid (Mp w1 B (n + 1) (upd f s.data.toList x) ∧ w.grownBy w1 (some B) ∧ w1.heap.size = w.heap.size ∧ (∀ a, w1.frozen? a = w.frozen? a)) := ⟨hmp, ⟨hgrow.os, hgrow.tape, hgrow.output, hgrow.size, hgrow.block⟩, hsize, hfro⟩
  clear hmp hgrow hsize hfro hm
  go_enter Try.func15, Try.ntmps15
  go_region
  all_goals
    go_end0
    exact ⟨rfl, H.out⟩

/-- A SLICE OF n uint64s V 0 .. V (n-1) at address a. -/
def U64s (w : World) (a : Option Addr) (n : Nat) (V : Nat → Int) : Prop :=
  n ≤ maxLen ∧ (n = 0 ∨ ∃ b off, a = some ⟨b, off, none⟩ ∧ b < w.heap.size ∧ ∀ i, i < n → w.cell? ⟨b, off + i, none⟩ = some (.int .u64 (V i)))

theorem U64s.below {w w' : World} {a : Option Addr} {n : Nat} {S : Nat → Int} (h : U64s w a n S) {B : Nat} (hb : Below B w w') (hB : w.heap.size ≤ B) : U64s w' a n S := by
  obtain ⟨h1, h3⟩ := h
  refine ⟨h1, ?_⟩
  rcases h3 with h3 | ⟨b, off, ha, hlt, hc⟩
  · exact Or.inl h3
  · exact Or.inr ⟨b, off, ha, Nat.lt_of_lt_of_le hlt hb.size, fun i hi => (hb.cell (p := ⟨b, off + i, none⟩) (by show b < B; omega)).trans (hc i hi)⟩

/-- Which block the map leads to behind k records: node j lies in block N + 2 + j. -/
def lastB (N : Nat) (S : Nat → ByteArray) : Nat → List UInt8 → Option Nat
  | 0 => fun _ => none
  | k + 1 => upd (lastB N S k) (S k).data.toList (N + 2 + k)

/-- THE WORLD BEHIND k RECORDS (N: the heap's size when zzWritersOf was called). -/
structure Recs (w : World) (S : Nat → ByteArray) (V : Nat → Int) (fl : Int) (N k : Nat) (wr : World) : Prop where
  below : Below N w wr
  size : wr.heap.size = N + 2 + k
  map : wr.cell? ⟨N + 1, 0, none⟩ = some (.map (some N))
  floor : wr.cell? ⟨N + 1, 4, none⟩ = some (.int .u64 fl)
  mp : Mp wr N k (lastB N S k)
  ver : ∀ j, j < k → wr.cell? ⟨N + 2 + j, 1, none⟩ = some (.int .u64 (V j))

theorem recs_start (w : World) (S : Nat → ByteArray) (V : Nat → Int) (fl : Int) : Recs w S V fl w.heap.size 0 ((w.alloc (.map #[] 0)).alloc (.cells (wrCells w.heap.size fl) 51)) := by
  refine ⟨((Below.refl _ _).alloc (Nat.le_refl _) _).alloc (by simp) _, by simp, ?_, ?_, (Mp_made w).alloc _, fun j hj => absurd hj (Nat.not_lt_zero j)⟩
  · rw [World.cell?_alloc_at _ _ _ _ (by simp)]; rfl
  · rw [World.cell?_alloc_at _ _ _ _ (by simp)]; rfl

theorem cell_behind {wr w1 : World} {o : Obj} {N b off : Nat} {v : Value} (hg : ((wr.alloc o).drew).grownBy w1 (some N)) (h : wr.cell? ⟨b, off, none⟩ = some v) (hne : b ≠ N) : w1.cell? ⟨b, off, none⟩ = some v :=
  hg.cell (by rw [World.cell?_drew, World.cell?_alloc_lt _ _ _ (World.block_lt_of_cell? _ _ h)]; exact h) (by simpa using hne)

/-- What ZZNode and ZZSet make of it. (wr.drew: the region has drawn its order.) -/
theorem recs_step {w wr w1 : World} {S : Nat → ByteArray} {V : Nat → Int} {fl : Int} {N k : Nat} (h : Recs w S V fl N k wr) (_hN : w.heap.size = N)
    (hm : Mp w1 N (k + 1) (upd (lastB N S k) (S k).data.toList (N + 2 + k))) (hg : ((wr.alloc (.cells (nodeCells (S k) (V k)) 53)).drew).grownBy w1 (some N)) (hz : w1.heap.size = ((wr.alloc (.cells (nodeCells (S k) (V k)) 53)).drew).heap.size) :
    Recs w S V fl N (k + 1) w1 := by
  obtain ⟨h1, h2, h3, h4, h5, h6⟩ := h
  have hB : Below N w ((wr.alloc (.cells (nodeCells (S k) (V k)) 53)).drew) := (h1.alloc (by omega) _).drew
  have hc : ∀ b o v, b ≠ N → b < wr.heap.size → wr.cell? ⟨b, o, none⟩ = some v → w1.cell? ⟨b, o, none⟩ = some v := fun b o v hb hlt hv =>
    hg.cell (by rw [World.cell?_drew, World.cell?_alloc_lt _ _ _ hlt]; exact hv) (by simpa using hb)
  refine ⟨hB.grown hg (by simp; omega) (fun j hj => by cases hj; exact Nat.le_refl _), by rw [hz]; simp; omega, hc _ _ _ (by omega) (by omega) h3, hc _ _ _ (by omega) (by omega) h4, hm, fun j hj => ?_⟩
  by_cases e : j = k
  · subst e
    refine hg.cell ?_ (by simp; omega)
    rw [World.cell?_drew, World.cell?_alloc_at _ _ _ _ (by omega)]
    rfl
  · exact hc _ _ _ (by omega) (by omega) (h6 j (by omega))

theorem writersOf_none (a a2 : Option Addr) (c c2 : Nat) (S : Nat → ByteArray) (V : Nat → Int) (fl : Int) (w : World) :
    Calls Try.prog 11 #[.slice a 0 c, .slice a2 0 c2, .int .u64 fl] w fun e w' => e = .returned (.pointer (some ⟨w.heap.size + 1, 0, none⟩)) ∧ Recs w S V fl w.heap.size 0 w' := by
  have R := recs_start w S V fl
  go_enter Try.func11, Try.ntmps11
  go_wp2_with (go_at_call 29; refine (newWriters_any _ _).mono ?_; rintro e w' ⟨rfl, rfl⟩)
  refine wp_loop_rounds 1 ?_
  rw [rounds_succ]
  go_wp2
  go_ret
  exact ⟨rfl, R⟩

set_option maxHeartbeats 1000000 in
theorem writersOf_some (b off b2 off2 n c c2 : Nat) (S : Nat → ByteArray) (V : Nat → Int) (fl : Int) (w : World) (hn : n ≤ 9223372036854775806) (hb : b < w.heap.size) (hb2 : b2 < w.heap.size) (hsz : ∀ i, i < n → (S i).size ≤ maxLen)
    (hc : ∀ i, i < n → w.cell? ⟨b, off + i, none⟩ = some (.string (S i))) (hd : ∀ i, i < n → w.cell? ⟨b2, off2 + i, none⟩ = some (.int .u64 (V i))) :
    Calls Try.prog 11 #[.slice (some ⟨b, off, none⟩) n c, .slice (some ⟨b2, off2, none⟩) n c2, .int .u64 fl] w fun e w' => e = .returned (.pointer (some ⟨w.heap.size + 1, 0, none⟩)) ∧ Recs w S V fl w.heap.size n w' := by
  have R := recs_start w S V fl
  go_enter Try.func11, Try.ntmps11
  go_wp2_with (go_at_call 29; refine (newWriters_any _ _).mono ?_; rintro e w' ⟨rfl, rfl⟩)
  go_loopw [8] (fun i wr => ∃ k : Nat, k ≤ n ∧ i = .int .i64 k ∧ Recs w S V fl w.heap.size k wr) (fun i _ => n - (intOf i).toNat)
  case atStart => exact ⟨0, Nat.zero_le _, rfl, R⟩
  case round =>
    obtain ⟨k, hk, rfl, hr⟩ := hrel
    clear R
    by_cases hkn : k < n
    · have hc1 : wr.cell? ⟨b, off + k, none⟩ = some (.string (S k)) := (hr.below.cell (p := ⟨b, off + k, none⟩) hb).trans (hc k hkn)
      have hd1 : wr.cell? ⟨b2, off2 + k, none⟩ = some (.int .u64 (V k)) := (hr.below.cell (p := ⟨b2, off2 + k, none⟩) hb2).trans (hd k hkn)
      have hz := hsz k hkn
      have hmp := hr.mp
      have hmc := hr.map
      have hsize := hr.size
      clear hc hd hsz
      go_wp2_with fail
      have hmc2 : ((wr.alloc (.cells (nodeCells (S k) (V k)) 53)).drew).cell? ⟨w.heap.size + 1, 0, none⟩ = some (.map (some w.heap.size)) := by
        rw [World.cell?_drew, World.cell?_alloc_lt _ _ _ (by simp; omega)]; exact hmc
      have hnc2 : ((wr.alloc (.cells (nodeCells (S k) (V k)) 53)).drew).cell? ⟨w.heap.size + 2 + k, 0, none⟩ = some (.string (S k)) := by
        rw [World.cell?_drew, World.cell?_alloc_at _ _ _ _ (by omega)]; rfl
      have hset := set_any (w.heap.size + 1) (w.heap.size + 2 + k) w.heap.size k (S k) _ _ hz (by unfold maxLen; omega) (hmp.alloc (.cells (nodeCells (S k) (V k)) 53)).drew hmc2 hnc2
      have HS := hide hset
      clear hset hmc2 hnc2 hmp hmc
      go_region_held3 (fun w' => w'.cell? ⟨b, off + k, none⟩ = some (.string (S k)) ∧ w'.cell? ⟨b2, off2 + k, none⟩ = some (.int .u64 (V k))) (go_keep)
        (first
          | (go_at_call 16; refine (node_any _ _ _).mono ?_; rintro e w' ⟨rfl, rfl⟩)
          | (go_at_call 15; refine HS.out.mono ?_; rintro e w' ⟨rfl, hm1, hg1, hz1, hf1⟩; have q1 := cell_behind hg1 hc1 (Nat.ne_of_lt hb); have q2 := cell_behind hg1 hd1 (Nat.ne_of_lt hb2); have R1 := recs_step hr rfl hm1 hg1 hz1; clear hm1 hg1 hz1 hf1))
      go_wp2
      go_roundw
      case rel => exact ⟨k + 1, by omega, by go_num, R1⟩
      case measure => simp [intOf]; omega
    · go_wp2
      go_ret
      have : k = n := by omega
      subst this
      exact ⟨rfl, hr⟩

end Go.Proofs.Qxb6617097a
