/-
  Seat b6617109a: the walk of FnAllDigitsNumeralsAndCuts.
-/
import Derived.Test.Qxb6617109aItoa
import Derived.OpenShut
namespace Go.Proofs.Qxb6617109a
open Go.RowKit

/-! ### the plain laws -/
theorem adL_append {a b : List UInt8} (ha : a.isEmpty = false) (hb : b.isEmpty = false) : adL (a ++ b) = (adL a && adL b) := by
  have hab : (a ++ b).isEmpty = false := by
    cases a with
    | nil => cases ha
    | cons x r => rfl
  unfold adL
  rw [ha, hb, hab, List.all_append]
  cases a.all digB <;> cases b.all digB <;> rfl
theorem adL_all {l : List UInt8} (h : l.isEmpty = false) : adL l = l.all digB := by unfold adL; rw [h]; rfl
theorem not_empty_of {l : List UInt8} (h : adL l = true) : l.isEmpty = false := by
  unfold adL at h
  cases he : l.isEmpty with
  | false => rfl
  | true => rw [he] at h; cases h

theorem data_append (a b : ByteArray) : (a ++ b).data.toList = a.data.toList ++ b.data.toList := by rw [ByteArray.data_append, Array.toList_append]
theorem data_left (s : ByteArray) (i : Nat) : (s.extract 0 i).data.toList = s.data.toList.take i := by simp
theorem data_right (s : ByteArray) (i : Nat) : (s.extract i s.size).data.toList = s.data.toList.drop i := by
  simp [List.take_of_length_le]

/-- A list with a part of digits put in. -/
theorem adL_mid {a b t : List UInt8} (ht : adL t = true) : adL (a ++ t ++ b) = (a.all digB && b.all digB) := by
  have he := not_empty_of ht
  have h1 : (a ++ t ++ b).isEmpty = false := by
    cases t with
    | nil => cases he
    | cons x r => cases a <;> rfl
  have h2 : t.all digB = true := by rw [← adL_all he]; exact ht
  rw [adL_all h1, List.all_append, List.all_append, h2, Bool.and_true]

theorem empty_eq (x : ByteArray) : x.toList.isEmpty = x.data.toList.isEmpty := by rw [ByteArray.toList_eq]

/-- The ways: which of the pieces are empty, which are digits. -/
theorem cut_ways (s t : ByteArray) (i : Nat) (ht : adB t = true) :
    (s.toList.isEmpty = true ∧ (s.extract 0 i).toList.isEmpty = true ∧ (s.extract i s.size).toList.isEmpty = true ∧ adB s = false ∧ adB (s.extract 0 i ++ t ++ s.extract i s.size) = true) ∨
    (s.toList.isEmpty = false ∧ (s.extract 0 i).toList.isEmpty = true ∧ (s.extract i s.size).toList.isEmpty = false ∧ adB (s.extract i s.size) = true ∧ adB s = true ∧ adB (s.extract 0 i ++ t ++ s.extract i s.size) = true) ∨
    (s.toList.isEmpty = false ∧ (s.extract 0 i).toList.isEmpty = true ∧ (s.extract i s.size).toList.isEmpty = false ∧ adB (s.extract i s.size) = false ∧ adB s = false ∧ adB (s.extract 0 i ++ t ++ s.extract i s.size) = false) ∨
    (s.toList.isEmpty = false ∧ (s.extract 0 i).toList.isEmpty = false ∧ adB (s.extract 0 i) = false ∧ adB s = false ∧ adB (s.extract 0 i ++ t ++ s.extract i s.size) = false) ∨
    (s.toList.isEmpty = false ∧ (s.extract 0 i).toList.isEmpty = false ∧ adB (s.extract 0 i) = true ∧ (s.extract i s.size).toList.isEmpty = true ∧ adB s = true ∧ adB (s.extract 0 i ++ t ++ s.extract i s.size) = true) ∨
    (s.toList.isEmpty = false ∧ (s.extract 0 i).toList.isEmpty = false ∧ adB (s.extract 0 i) = true ∧ (s.extract i s.size).toList.isEmpty = false ∧ adB (s.extract i s.size) = true ∧ adB s = true ∧ adB (s.extract 0 i ++ t ++ s.extract i s.size) = true) ∨
    (s.toList.isEmpty = false ∧ (s.extract 0 i).toList.isEmpty = false ∧ adB (s.extract 0 i) = true ∧ (s.extract i s.size).toList.isEmpty = false ∧ adB (s.extract i s.size) = false ∧ adB s = false ∧ adB (s.extract 0 i ++ t ++ s.extract i s.size) = false) := by
  have hM : adB (s.extract 0 i ++ t ++ s.extract i s.size) = ((s.data.toList.take i).all digB && (s.data.toList.drop i).all digB) := by
    unfold adB
    rw [data_append, data_append, data_left, data_right]
    exact adL_mid ht
  have hS : s.data.toList = s.data.toList.take i ++ s.data.toList.drop i := (List.take_append_drop i _).symm
  have hs : adB s = adL (s.data.toList.take i ++ s.data.toList.drop i) := by unfold adB; rw [← hS]
  have ha : adB (s.extract 0 i) = adL (s.data.toList.take i) := by unfold adB; rw [data_left]
  have hb : adB (s.extract i s.size) = adL (s.data.toList.drop i) := by unfold adB; rw [data_right]
  have he : s.data.toList.isEmpty = (s.data.toList.take i ++ s.data.toList.drop i).isEmpty := by rw [← hS]
  rw [hM, hs, ha, hb, empty_eq, empty_eq, empty_eq, data_left, data_right, he]
  generalize s.data.toList.take i = A
  generalize s.data.toList.drop i = B
  cases hA : A.isEmpty with
  | true =>
    obtain rfl : A = [] := List.isEmpty_iff.1 hA
    cases hB : B.isEmpty with
    | true =>
      obtain rfl : B = [] := List.isEmpty_iff.1 hB
      exact Or.inl ⟨rfl, rfl, rfl, rfl, rfl⟩
    | false =>
      cases h : adL B with
      | true => exact Or.inr (Or.inl ⟨hB, rfl, rfl, rfl, h, by rw [← adL_all hB, h]; rfl⟩)
      | false => exact Or.inr (Or.inr (Or.inl ⟨hB, rfl, rfl, rfl, h, by rw [← adL_all hB, h]; rfl⟩))
  | false =>
    have hAB : (A ++ B).isEmpty = false := by
      cases A with
      | nil => cases hA
      | cons x r => rfl
    cases h : adL A with
    | false =>
      refine Or.inr (Or.inr (Or.inr (Or.inl ⟨hAB, rfl, rfl, ?_, by rw [← adL_all hA, h]; rfl⟩)))
      rw [adL_all hAB, List.all_append, ← adL_all hA, h]; rfl
    | true =>
      cases hB : B.isEmpty with
      | true =>
        obtain rfl : B = [] := List.isEmpty_iff.1 hB
        exact Or.inr (Or.inr (Or.inr (Or.inr (Or.inl ⟨hAB, rfl, rfl, rfl, by rw [List.append_nil]; exact h, by rw [← adL_all hA, h]; rfl⟩))))
      | false =>
        cases h2 : adL B with
        | true => exact Or.inr (Or.inr (Or.inr (Or.inr (Or.inr (Or.inl ⟨hAB, rfl, rfl, rfl, rfl, by rw [adL_append hA hB, h, h2]; rfl, by rw [← adL_all hA, ← adL_all hB, h, h2]; rfl⟩)))))
        | false => exact Or.inr (Or.inr (Or.inr (Or.inr (Or.inr (Or.inr ⟨hAB, rfl, rfl, rfl, rfl, by rw [adL_append hA hB, h, h2]; rfl, by rw [← adL_all hA, ← adL_all hB, h, h2]; rfl⟩)))))

theorem below_next {w a b : World} (h : Below w.heap.size w a) (h' : Below a.heap.size a b) : Below w.heap.size w b := h.trans (h'.mono h.size)

set_option maxRecDepth 100000 in
set_option maxHeartbeats 2000000 in
theorem cuts_in (s : ByteArray) (i : Nat) (n : Int) (w : World) (hs : s.size ≤ 1048576) (hi : i ≤ s.size) (h0 : 0 ≤ n) (h1 : n ≤ 18446744073709551615) :
    Calls Try.prog 3 #[.string s, .int .i64 i, .int .u64 n] w fun e w' => e = .returned (.bool true) ∧ Below w.heap.size w w' := by
  have hit := hide (itoa_any n w h0 h1)
  go_enter Try.func3, Try.ntmps3
  go_wp2_with (first
    | (go_at_call 5; go_in)
    | (go_at_call 6; refine hit.out.mono ?_; rintro e w1 ⟨⟨t, rfl, ht, hts⟩, hB1⟩))
  have eA : (s.extract 0 i).size ≤ 1048576 := by simp; omega
  have eB : (s.extract i s.size).size ≤ 1048576 := by simp; omega
  have eM : (s.extract 0 i ++ t ++ s.extract i s.size).size ≤ 9223372036854775806 := by rw [ByteArray.size_append, ByteArray.size_append]; omega
  have zA := hide eA
  have zB := hide eB
  have zM := hide eM
  clear eA eB eM hit
  rcases cut_ways s t i ht with ⟨f1, f2, f3, f4, f5⟩ | ⟨f1, f2, f3, f4, f5, f6⟩ | ⟨f1, f2, f3, f4, f5, f6⟩ | ⟨f1, f2, f3, f4, f5⟩ | ⟨f1, f2, f3, f4, f5, f6⟩ | ⟨f1, f2, f3, f4, f5, f6, f7⟩ | ⟨f1, f2, f3, f4, f5, f6, f7⟩
  all_goals
    go_wp2_with (go_at_call 7; refine (zzAllDigits_any _ _ ?_).mono ?_; (first | omega | exact Nat.le_trans zA.out (by omega) | exact Nat.le_trans zB.out (by omega) | exact zM.out); rintro e w2 ⟨rfl, hB2⟩; have hB1 := below_next hB1 hB2; clear hB2)
    go_ret
    exact ⟨rfl, hB1⟩

set_option maxHeartbeats 1000000 in
theorem cuts_out (s : ByteArray) (i n : Int) (w : World) (hs : s.size ≤ 9223372036854775807) (ho : 1048576 < s.size ∨ i < 0 ∨ (s.size : Int) < i) :
    Calls Try.prog 3 #[.string s, .int .i64 i, .int .u64 n] w fun e w' => e = .returned (.bool true) ∧ Below w.heap.size w w' := by
  by_cases h1 : 1048576 < s.size
  · clear ho
    go_enter Try.func3, Try.ntmps3
    go_wp2
    go_ret
    exact ⟨rfl, Below.refl _ _⟩
  by_cases h2 : i < 0
  · clear ho
    go_enter Try.func3, Try.ntmps3
    go_wp2
    go_ret
    exact ⟨rfl, Below.refl _ _⟩
  · have h3 : (s.size : Int) < i := by omega
    clear ho
    go_enter Try.func3, Try.ntmps3
    go_wp2
    go_ret
    exact ⟨rfl, Below.refl _ _⟩

/-- THE WALK, WHOLE. -/
theorem cuts_walk (s : ByteArray) (i n : Int) (w : World) (hs : s.size ≤ maxLen) (hn : (Lit.int .u64 n).wf = true) :
    Calls Try.prog 3 #[.string s, .int .i64 i, .int .u64 n] w fun e w' => e = .returned (.bool true) ∧ Below w.heap.size w w' := by
  have hb : 0 ≤ n ∧ n ≤ 18446744073709551615 := by
    have := bounds_u64 hn
    omega
  by_cases ho : 1048576 < s.size ∨ i < 0 ∨ (s.size : Int) < i
  · exact cuts_out s i n w (by unfold maxLen at hs; exact hs) ho
  · obtain ⟨j, rfl⟩ : ∃ j : Nat, i = j := ⟨i.toNat, by omega⟩
    exact cuts_in s j n w (by omega) (by omega) hb.1 hb.2

end Go.Proofs.Qxb6617109a
