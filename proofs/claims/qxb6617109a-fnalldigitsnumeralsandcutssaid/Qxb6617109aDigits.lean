/-
  Seat b6617109a: allDigits, told as a plain function of the bytes; its walk.
-/
import Derived.Test.Qxb6617109aRows
import Derived.WalkKit
import Derived.WalkLawsBesides
import Derived.WalkSpells
import Derived.Laws.IdiomStrings
import Derived.Deep.LoopGhost
import Derived.Deep.OwnRows
namespace Go.Proofs.Qxb6617109a
open Go.RowKit

theorem hide {p : Prop} (h : p) : Hid p := h

/-- Is the byte one of '0' to '9'? -/
def digB (c : UInt8) : Bool := decide (48 ≤ c.toNat ∧ c.toNat ≤ 57)
/-- What allDigits answers. -/
def adL (l : List UInt8) : Bool := !l.isEmpty && l.all digB
def adB (s : ByteArray) : Bool := adL s.data.toList

set_option maxHeartbeats 400000 in
theorem allDigits_empty (s : ByteArray) (w : World) (he : s.toList.isEmpty = true) : Calls Try.prog 9 #[.string s] w fun e w' => e = .returned (.bool false) ∧ w' = w := by
  go_enter Try.func9, Try.ntmps9
  go_wp2
  go_ret
  exact ⟨rfl, rfl⟩

theorem dig_next {D : Nat → Int} {k : Nat} (h : ∀ j, j < k → 48 ≤ D j ∧ D j ≤ 57) (hk : 48 ≤ D k ∧ D k ≤ 57) : ∀ j, j < k + 1 → 48 ≤ D j ∧ D j ≤ 57 := fun j hj => by
  by_cases e : j = k
  · subst e; exact hk
  · exact h j (by omega)

set_option maxHeartbeats 1000000 in
theorem allDigits_core (s : ByteArray) (cap : Nat) (w w1 : World) (D : Nat → Int) (r : Bool) (he : s.toList.isEmpty = false) (hs : s.size ≤ 9223372036854775806)
    (hconv : (convert 9 27 (.string s)).run Try.prog w = .ok (.slice (some ⟨w.heap.size, 0, none⟩) s.size cap) w1)
    (hc : ∀ k, k < s.size → w1.cell? ⟨w.heap.size, k, none⟩ = some (.int .u8 (D k))) (hr : Hid (r = true ↔ ∀ k, k < s.size → 48 ≤ D k ∧ D k ≤ 57)) :
    Calls Try.prog 9 #[.string s] w fun e w' => e = .returned (.bool r) ∧ w' = w1 := by
  go_enter Try.func9, Try.ntmps9
  go_wp2
  go_loopg [10] s.size (fun gk i wr => wr = w1 ∧ ∃ k : Nat, k ≤ s.size ∧ gk = s.size - k ∧ i = .int .i64 k ∧ Hid (∀ j, j < k → 48 ≤ D j ∧ D j ≤ 57))
  case atStart => exact ⟨rfl, 0, Nat.zero_le _, rfl, rfl, fun j hj => absurd hj (Nat.not_lt_zero j)⟩
  case round =>
    obtain ⟨hw, k, hk, rfl, rfl, HD⟩ := hrel
    subst hw
    clear hconv
    by_cases hkn : k < s.size
    · have hcell := hc k hkn
      clear hc
      by_cases h1 : D k < 48
      · have hf : r = false := by
          cases hr' : r with
          | false => rfl
          | true => have := hr.out.1 hr' k hkn; omega
        subst hf
        go_wp2
        go_ret
        exact ⟨rfl, rfl⟩
      by_cases h2 : 57 < D k
      · have hf : r = false := by
          cases hr' : r with
          | false => rfl
          | true => have := hr.out.1 hr' k hkn; omega
        subst hf
        go_wp2
        go_ret
        exact ⟨rfl, rfl⟩
      · go_wp2
        go_roundg (s.size - (k + 1))
        case rel => exact ⟨rfl, k + 1, by omega, rfl, by go_num, dig_next HD.out ⟨by omega, by omega⟩⟩
        case measure => omega
    · have ht : r = true := hr.out.2 (fun j hj => HD.out j (by omega))
      subst ht
      go_wp2
      go_ret
      exact ⟨rfl, rfl⟩

theorem bytes_at (s : ByteArray) (k : Nat) (hk : k < s.size) : s.data.toList[k]? = some (s.data.toList.getD k 0) := by
  have hk' : k < s.data.toList.length := by simpa using hk
  rw [List.getD, List.getElem?_eq_getElem hk']
  rfl

theorem adB_iff (s : ByteArray) (he : s.toList.isEmpty = false) : adB s = true ↔ ∀ k, k < s.size → 48 ≤ ((s.data.toList.getD k 0).toNat : Int) ∧ ((s.data.toList.getD k 0).toNat : Int) ≤ 57 := by
  have he' : s.data.toList.isEmpty = false := by rw [ByteArray.toList_eq] at he; exact he
  unfold adB adL
  rw [he']
  simp only [Bool.not_false, Bool.true_and, List.all_eq_true]
  constructor
  · intro h k hk
    have hm := List.mem_of_getElem? (bytes_at s k hk)
    have := h _ hm
    simp only [digB, decide_eq_true_eq] at this
    omega
  · intro h c hcm
    obtain ⟨k, hk⟩ := List.getElem?_of_mem hcm
    have hlt : k < s.size := by have := (List.getElem?_eq_some_iff.1 hk).1; simpa using this
    have h2 := h k hlt
    rw [bytes_at s k hlt] at hk
    injection hk with hk
    rw [hk] at h2
    simp only [digB, decide_eq_true_eq]
    omega

/-- allDigits: what it answers; at most new blocks are made. -/
theorem allDigits_any (s : ByteArray) (w : World) (hs : s.size ≤ 9223372036854775806) : Calls Try.prog 9 #[.string s] w fun e w' => e = .returned (.bool (adB s)) ∧ Below w.heap.size w w' := by
  cases he : s.toList.isEmpty with
  | true =>
    have e1 : adB s = false := by
      have he' : s.data.toList.isEmpty = true := by rw [ByteArray.toList_eq] at he; exact he
      unfold adB adL
      rw [he']; rfl
    rw [e1]
    exact (allDigits_empty s w he).mono fun e w' ⟨h1, h2⟩ => ⟨h1, h2 ▸ Below.refl _ _⟩
  | false =>
    have hcv := run_bytes_of_string (P := Try.prog) w 9 27 5 s Try.underlying9 Try.underlying27 Try.underlying5
    refine (allDigits_core s _ w _ (fun k => ((s.data.toList.getD k 0).toNat : Int)) (adB s) he hs hcv (fun k hk => ?_) (adB_iff s he)).mono fun e w' ⟨h1, h2⟩ => ⟨h1, ?_⟩
    · have e := World.cell?_alloc_mark w.drew (bytesRow s (grownCap w s.size 0 5)) 5 ((bytesRow s (grownCap w s.size 0 5)).size, (bytesRow s (grownCap w s.size 0 5)).size + 1) k
      refine e.trans ?_
      have hk' : k < s.data.size := hk
      rw [bytesRow_at s _ k hk']
      have h3 := bytes_at s k hk
      rw [Array.getElem?_toList, Array.getElem?_eq_getElem hk'] at h3
      injection h3 with h3
      rw [h3]
    · rw [h2]
      exact (Below.refl _ _).drew.alloc (Nat.le_refl _) _

/-- ZZallDigits. -/
theorem zzAllDigits_any (s : ByteArray) (w : World) (hs : s.size ≤ 9223372036854775806) : Calls Try.prog 7 #[.string s] w fun e w' => e = .returned (.bool (adB s)) ∧ Below w.heap.size w w' := by
  have hk := hide (allDigits_any s w hs)
  go_enter Try.func7, Try.ntmps7
  go_wp2_with (go_at_call 9; refine hk.out.mono ?_; rintro e w1 ⟨rfl, hB⟩)
  go_ret
  exact ⟨rfl, hB⟩

end Go.Proofs.Qxb6617109a
