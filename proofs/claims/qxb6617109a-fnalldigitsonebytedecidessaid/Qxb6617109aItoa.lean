/-
  Seat b6617109a: zzItoa hands back a string of one to twenty digits.
-/
import Derived.Test.Qxb6617109aDigits
namespace Go.Proofs.Qxb6617109a
open Go.RowKit

/-- What the loop knows: k places are left, the rest m fits them; the places from k on hold digits. -/
structure Buf (w : World) (N k : Nat) (m : Int) (wr : World) : Prop where
  below : Below N w wr
  lo : 0 ≤ m
  hi : m < 10 ^ k
  up : m ≤ 18446744073709551615
  row : ∃ f : Nat → Int, wr.rowIs N 28 20 (fun j => .int .u8 (f j)) ∧ ∀ j, k ≤ j → j < 20 → 48 ≤ f j ∧ f j ≤ 57

theorem buf_start (w : World) (m : Int) (h0 : 0 ≤ m) (h1 : m ≤ 18446744073709551615) : Buf w w.heap.size 20 m (w.alloc (.cells (Array.replicate 20 (.int .u8 0)) 28)) := by
  refine ⟨(Below.refl _ _).alloc (Nat.le_refl _) _, h0, by omega, h1, fun _ => 0, ?_, fun j h1 h2 => by omega⟩
  have := World.rowIs_alloc w (Array.replicate 20 (.int .u8 0)) 28 (fun _ => .int .u8 0) (fun i hi => by
    have hi' : i < 20 := by simpa using hi
    rw [Array.getElem?_replicate, if_pos hi'])
  simpa using this

theorem buf_step {w wr : World} {N j : Nat} {m : Int} (h : Buf w N (j + 1) m wr) (_hj : j < 20) : Buf w N j (m / 10) (wr.setCell ⟨N, j, none⟩ (.int .u8 (48 + m % 10))) := by
  obtain ⟨h1, h2, h3, hu, f, h4, h5⟩ := h
  refine ⟨h1.setCell (Nat.le_refl _) _, by omega, ?_, by omega, fun i => if i = j then 48 + m % 10 else f i, (h4.set j _).congr (fun i hi => ?_), fun i hi1 hi2 => ?_⟩
  · have e : (10 : Int) ^ (j + 1) = 10 * 10 ^ j := by rw [Int.pow_succ, Int.mul_comm]
    rw [e] at h3
    generalize (10 : Int) ^ j = P at h3 ⊢
    omega
  · by_cases e : i = j
    · simp [e]
    · simp [e]
  · show 48 ≤ (if i = j then 48 + m % 10 else f i) ∧ (if i = j then 48 + m % 10 else f i) ≤ 57
    by_cases e : i = j
    · rw [if_pos e]; omega
    · rw [if_neg e]; exact h5 i (by omega) hi2

/-- The bytes from place j on, as a string: digits, at least one. -/
theorem buf_string {w wr : World} {N j : Nat} {m : Int} (h : Buf w N j m wr) (hj : j < 20) : ∃ t : ByteArray, (convert 27 9 (.slice (some ⟨N, j, none⟩) (20 - j) (20 - j))).run Try.prog wr = .ok (.string t) wr ∧ adB t = true ∧ t.size ≤ 20 := by
  obtain ⟨_, _, _, _, f, hrow, hd⟩ := h
  have hlen : ((List.range (20 - j)).map (fun i => UInt8.ofNat (f (j + i)).toNat)).length = 20 - j := by simp
  have hat : ∀ i (hi : i < ((List.range (20 - j)).map (fun i => UInt8.ofNat (f (j + i)).toNat)).length), ((((List.range (20 - j)).map (fun i => UInt8.ofNat (f (j + i)).toNat))[i]).toNat : Int) = f (j + i) := fun i hi => by
    rw [hlen] at hi
    have := hd (j + i) (by omega) (by omega)
    simp
    omega
  have hrun := run_convert_bytes_back (P := Try.prog) wr 27 9 5 ⟨N, j, none⟩ (20 - j) ((List.range (20 - j)).map (fun i => UInt8.ofNat (f (j + i)).toNat)) Try.underlying27 Try.underlying5 Try.underlying9 (fun i hi => by
    rw [WideShapes.add_plain, hat i hi]
    rw [hlen] at hi
    exact hrow.cell (i := j + i) (by omega))
  rw [hlen] at hrun
  refine ⟨_, hrun, ?_, ?_⟩
  · unfold adB adL
    rw [Bool.and_eq_true]
    constructor
    · simp
      omega
    · rw [List.all_eq_true]
      intro c hc
      simp at hc
      obtain ⟨i, hi, rfl⟩ := hc
      have := hd (j + i) (by omega) (by omega)
      simp only [digB, decide_eq_true_eq]
      simp
      omega
  · show ((List.range (20 - j)).map (fun i => UInt8.ofNat (f (j + i)).toNat)).toArray.size ≤ 20
    simp

theorem arr28 : Try.prog.underlying 28 = some (.array (Try.prog.arrayLen 28) (Try.prog.elem 28)) := by kernel_rfl
theorem len28 : Try.prog.arrayLen 28 = 20 := by kernel_rfl
theorem size28 (w : World) : (sizeOf (Try.prog.elem 28)).run Try.prog w = .ok 1 w := by kernel_rfl
theorem slice_buf (N j : Nat) (hj : j < 20) (w : World) : (Instr.sliceAt 28 (.pointer (some ⟨N, 0, none⟩)) (some (.int .i64 j)) none none).run Try.prog w = .ok (.slice (some ⟨N, j, none⟩) (20 - j) (20 - j)) w := by
  rw [run_sliceAt_array_l w 28 _ arr28 .i64 j (by omega) (by rw [len28]; omega), size28]
  have e : ¬ 20 = j := by omega
  simp [Result.andThen, slicedAt, len28, e, WideShapes.add_plain]

set_option maxHeartbeats 1000000 in
theorem itoa_any (m : Int) (w : World) (h0 : 0 ≤ m) (h1 : m ≤ 18446744073709551615) :
    Calls Try.prog 6 #[.int .u64 m] w fun e w' => (∃ t : ByteArray, e = .returned (.string t) ∧ adB t = true ∧ t.size ≤ 20) ∧ Below w.heap.size w w' := by
  have hS := buf_start w m h0 h1
  go_enter Try.func6, Try.ntmps6
  go_wp2
  go_loopg [0, 4] 20 (fun gk n kk wr => ∃ (k : Nat) (x : Int), k = gk ∧ 1 ≤ k ∧ k ≤ 20 ∧ kk = .int .i64 k ∧ n = .int .u64 x ∧ Buf w w.heap.size k x wr)
  case atStart => exact ⟨20, m, rfl, by omega, by omega, rfl, rfl, hS⟩
  case round =>
    obtain ⟨k, x, rfl, hk1, hk2, rfl, rfl, hb⟩ := hrel
    obtain ⟨j, rfl⟩ : ∃ j, k = j + 1 := ⟨k - 1, by omega⟩
    clear hS h0 h1
    have hx0 := hb.lo
    have hx1 := hb.up
    have hn := buf_step hb (by omega)
    obtain ⟨f, hrow, _⟩ := hb.row
    have q1 := hrow.cell (i := j) (by omega)
    have q2 := hrow.frozen j
    clear hb hrow
    have hsl := slice_buf w.heap.size j (by omega)
    obtain ⟨t, hcv, ht1, ht2⟩ := buf_string hn (by omega)
    have HT := hide (And.intro ht1 ht2)
    have hB := hn.below
    clear ht1 ht2
    go_wp2
    · go_ret
      exact ⟨⟨t, rfl, HT.out.1, HT.out.2⟩, hB⟩
    · have hne : (x / 10 == 0) = false := by assumption
      have hj1 : 1 ≤ j := by
        have h3 := hn.hi
        have h4 : x / 10 ≠ 0 := by simpa using hne
        have h5 := hn.lo
        cases j with
        | zero => simp at h3; omega
        | succ j => omega
      go_roundg j
      case rel => exact ⟨j, x / 10, rfl, hj1, by omega, rfl, rfl, hn⟩
      case measure => omega

end Go.Proofs.Qxb6617109a
