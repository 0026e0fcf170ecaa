/-
  Seat b6617109a: the walk of FnAllDigitsOneByteDecides.
-/
import Derived.Test.Qxb6617109aCutsW
import Derived.Deep.RegionWith
namespace Go.Proofs.Qxb6617109a
open Go.RowKit

/-- string([]byte{c}) -/
def oneB (c : Int) : ByteArray := ⟨#[UInt8.ofNat c.toNat]⟩
theorem one_conv (c : Int) (w : World) (h0 : 0 ≤ c) (h1 : c ≤ 255) :
    (convert 27 9 (.slice (some ⟨w.heap.size, 0, none⟩) 1 1)).run Try.prog (w.alloc (.cells #[.int .u8 c] 5)) = .ok (.string (oneB c)) (w.alloc (.cells #[.int .u8 c] 5)) := by
  refine run_convert_bytes_back (P := Try.prog) (w.alloc (.cells #[.int .u8 c] 5)) 27 9 5 ⟨w.heap.size, 0, none⟩ 1 [UInt8.ofNat c.toNat] Try.underlying27 Try.underlying5 Try.underlying9 (fun j hj => ?_)
  have hj0 : j = 0 := by simpa using hj
  subst hj0
  rw [WideShapes.add_plain, World.cell?_alloc_at _ _ _ _ rfl]
  simp
  omega

/-! ### the plain laws -/
theorem one_data (c : Int) : (oneB c).data.toList = [UInt8.ofNat c.toNat] := rfl
theorem dig_one {c : Int} (h0 : 0 ≤ c) (h1 : c ≤ 255) : digB (UInt8.ofNat c.toNat) = decide (48 ≤ c ∧ c ≤ 57) := by
  unfold digB
  rw [decide_eq_decide]
  have e : (UInt8.ofNat c.toNat).toNat = c.toNat := by simp; omega
  rw [e]
  omega
theorem adL_all_of {l : List UInt8} (h : ∃ x, x ∈ l) : adL l = l.all digB := by
  apply adL_all
  obtain ⟨x, hx⟩ := h
  cases l with
  | nil => cases hx
  | cons y r => rfl

theorem one_right {t : ByteArray} {c : Int} (ht : adB t = true) (h0 : 0 ≤ c) (h1 : c ≤ 255) : adB (t ++ oneB c) = decide (48 ≤ c ∧ c ≤ 57) := by
  have h2 : t.data.toList.all digB = true := by rw [← adL_all (not_empty_of ht)]; exact ht
  unfold adB
  rw [data_append, one_data, adL_all_of ⟨UInt8.ofNat c.toNat, by simp⟩, List.all_append, h2]
  simp only [List.all_cons, List.all_nil, Bool.and_true, Bool.true_and]
  exact dig_one h0 h1
theorem one_left {t : ByteArray} {c : Int} (ht : adB t = true) (h0 : 0 ≤ c) (h1 : c ≤ 255) : adB (oneB c ++ t) = decide (48 ≤ c ∧ c ≤ 57) := by
  have h2 : t.data.toList.all digB = true := by rw [← adL_all (not_empty_of ht)]; exact ht
  unfold adB
  rw [data_append, one_data, adL_all_of ⟨UInt8.ofNat c.toNat, by simp⟩, List.all_append, h2]
  simp only [List.all_cons, List.all_nil, Bool.and_true]
  exact dig_one h0 h1
theorem one_mid {s : ByteArray} {c : Int} (i : Nat) (h0 : 0 ≤ c) (h1 : c ≤ 255) : adB (s.extract 0 i ++ oneB c ++ s.extract i s.size) = (decide (48 ≤ c ∧ c ≤ 57) && s.data.toList.all digB) := by
  have hS : s.data.toList.all digB = ((s.data.toList.take i).all digB && (s.data.toList.drop i).all digB) := by rw [← List.all_append, List.take_append_drop]
  unfold adB
  rw [data_append, data_append, data_left, data_right, one_data, adL_all_of ⟨UInt8.ofNat c.toNat, by simp⟩, List.all_append, List.all_append, hS]
  simp only [List.all_cons, List.all_nil, Bool.and_true]
  rw [dig_one h0 h1]
  cases (s.data.toList.take i).all digB <;> cases (s.data.toList.drop i).all digB <;> cases decide (48 ≤ c ∧ c ≤ 57) <;> rfl

/-- The ways where c is a digit. -/
theorem one_ways {s : ByteArray} {c : Int} (i : Nat) (h0 : 48 ≤ c) (h1 : c ≤ 57) :
    (s.toList.isEmpty = true ∧ adB (s.extract 0 i ++ oneB c ++ s.extract i s.size) = true) ∨
    (s.toList.isEmpty = false ∧ adB s = true ∧ adB (s.extract 0 i ++ oneB c ++ s.extract i s.size) = true) ∨
    (s.toList.isEmpty = false ∧ adB s = false ∧ adB (s.extract 0 i ++ oneB c ++ s.extract i s.size) = false) := by
  have hM := one_mid (s := s) (c := c) i (by omega) (by omega)
  rw [decide_eq_true (⟨h0, h1⟩ : 48 ≤ c ∧ c ≤ 57), Bool.true_and] at hM
  rw [hM, empty_eq]
  cases he : s.data.toList.isEmpty with
  | true =>
    left
    have : s.data.toList = [] := List.isEmpty_iff.1 he
    rw [this]
    exact ⟨rfl, rfl⟩
  | false =>
    have hs : adB s = s.data.toList.all digB := adL_all he
    rw [hs]
    cases h : s.data.toList.all digB with
    | true => exact Or.inr (Or.inl ⟨rfl, rfl, rfl⟩)
    | false => exact Or.inr (Or.inr ⟨rfl, rfl, rfl⟩)

set_option maxRecDepth 100000 in
set_option maxHeartbeats 2000000 in
/-- c is a digit. -/
theorem one_yes (s : ByteArray) (i : Nat) (c n : Int) (w : World) (hs : s.size ≤ 1048576) (hi : i ≤ s.size) (h0 : 0 ≤ n) (h1 : n ≤ 18446744073709551615) (hd : 48 ≤ c) (hd2 : c ≤ 57) :
    Calls Try.prog 4 #[.string s, .int .i64 i, .int .u8 c, .int .u64 n] w fun e w' => e = .returned (.bool true) ∧ Below w.heap.size w w' := by
  have hit := hide (itoa_any n w h0 h1)
  have hcv := fun w => one_conv c w (by omega) (by omega)
  go_enter Try.func4, Try.ntmps4
  go_wp2_with (first
    | (go_at_call 8; go_in)
    | (go_at_call 6; refine hit.out.mono ?_; rintro e w1 ⟨⟨t, rfl, ht, hts⟩, hB1⟩; have hB1 := hB1.alloc hB1.size (Obj.cells #[Value.int .u8 c] 5); have hoz : (oneB c).size ≤ 1 := Nat.le_refl 1))
  have f1 : adB (t ++ oneB c) = true := by rw [one_right ht (by omega) (by omega)]; exact decide_eq_true ⟨hd, hd2⟩
  have f2 : adB (oneB c ++ t) = true := by rw [one_left ht (by omega) (by omega)]; exact decide_eq_true ⟨hd, hd2⟩
  have e1 : (t ++ oneB c).size ≤ 1048576 := by rw [ByteArray.size_append]; omega
  have e2 : (oneB c ++ t).size ≤ 1048576 := by rw [ByteArray.size_append]; omega
  have e3 : (s.extract 0 i ++ oneB c ++ s.extract i s.size).size ≤ 9223372036854775806 := by rw [ByteArray.size_append, ByteArray.size_append]; simp; omega
  have z1 := hide e1
  have z2 := hide e2
  have z3 := hide e3
  clear e1 e2 e3 hit hcv
  go_wp2_with (go_at_call 7; refine (zzAllDigits_any _ _ ?_).mono ?_; (first | exact Nat.le_trans z1.out (by omega) | exact Nat.le_trans z2.out (by omega)); rintro e w2 ⟨rfl, hB2⟩; have hB1 := below_next hB1 hB2; clear hB2)
  rcases one_ways (s := s) i hd hd2 with ⟨f3, f4⟩ | ⟨f3, f4, f5⟩ | ⟨f3, f4, f5⟩
  all_goals
    go_region_with (go_at_call 7; refine (zzAllDigits_any _ _ ?_).mono ?_; exact z3.out; rintro e w3 ⟨rfl, hB3⟩; have hB1 := below_next hB1.drew hB3; clear hB3)
    all_goals
      go_wp2_with (go_at_call 7; refine (zzAllDigits_any _ _ ?_).mono ?_; omega; rintro e w4 ⟨rfl, hB4⟩; have hB1 := below_next hB1 hB4; clear hB4)
      go_ret
      exact ⟨rfl, hB1⟩

set_option maxRecDepth 100000 in
set_option maxHeartbeats 2000000 in
/-- c is no digit. -/
theorem one_no (s : ByteArray) (i : Nat) (c n : Int) (w : World) (hs : s.size ≤ 1048576) (hi : i ≤ s.size) (h0 : 0 ≤ n) (h1 : n ≤ 18446744073709551615) (hc0 : 0 ≤ c) (hc1 : c ≤ 255) (hd : c < 48 ∨ 57 < c) :
    Calls Try.prog 4 #[.string s, .int .i64 i, .int .u8 c, .int .u64 n] w fun e w' => e = .returned (.bool true) ∧ Below w.heap.size w w' := by
  have hit := hide (itoa_any n w h0 h1)
  have hcv := fun w => one_conv c w hc0 hc1
  have hnd : decide (48 ≤ c ∧ c ≤ 57) = false := decide_eq_false (by omega)
  have f3 : adB (s.extract 0 i ++ oneB c ++ s.extract i s.size) = false := by rw [one_mid i hc0 hc1, hnd]; rfl
  have FT : Hid (∀ t, adB t = true → adB (t ++ oneB c) = false ∧ adB (oneB c ++ t) = false) := fun t ht => ⟨by rw [one_right ht hc0 hc1, hnd], by rw [one_left ht hc0 hc1, hnd]⟩
  clear hnd
  rcases hd with hd | hd
  all_goals
    go_enter Try.func4, Try.ntmps4
    go_wp2_with (first
      | (go_at_call 8; go_in)
      | (go_at_call 6; refine hit.out.mono ?_; rintro e w1 ⟨⟨t, rfl, ht, hts⟩, hB1⟩; have hB1 := hB1.alloc hB1.size (Obj.cells #[Value.int .u8 c] 5); have hoz : (oneB c).size ≤ 1 := Nat.le_refl 1))
    obtain ⟨f1, f2⟩ := FT.out t ht
    have e1 : (t ++ oneB c).size ≤ 1048576 := by rw [ByteArray.size_append]; omega
    have e2 : (oneB c ++ t).size ≤ 1048576 := by rw [ByteArray.size_append]; omega
    have e3 : (s.extract 0 i ++ oneB c ++ s.extract i s.size).size ≤ 9223372036854775806 := by rw [ByteArray.size_append, ByteArray.size_append]; simp; omega
    have z1 := hide e1
    have z2 := hide e2
    have z3 := hide e3
    clear e1 e2 e3 hit hcv
    go_wp2_with (go_at_call 7; refine (zzAllDigits_any _ _ ?_).mono ?_; (first | exact Nat.le_trans z1.out (by omega) | exact Nat.le_trans z2.out (by omega)); rintro e w2 ⟨rfl, hB2⟩; have hB1 := below_next hB1 hB2; clear hB2)
    go_region_with (go_at_call 7; refine (zzAllDigits_any _ _ ?_).mono ?_; exact z3.out; rintro e w3 ⟨rfl, hB3⟩; have hB1 := below_next hB1.drew hB3; clear hB3)
    all_goals
      go_wp2
      go_ret
      exact ⟨rfl, hB1⟩

set_option maxHeartbeats 1000000 in
theorem one_out (s : ByteArray) (i c n : Int) (w : World) (hs : s.size ≤ 9223372036854775807) (ho : 1048576 < s.size ∨ i < 0 ∨ (s.size : Int) < i) :
    Calls Try.prog 4 #[.string s, .int .i64 i, .int .u8 c, .int .u64 n] w fun e w' => e = .returned (.bool true) ∧ Below w.heap.size w w' := by
  by_cases h1 : 1048576 < s.size
  · clear ho
    go_enter Try.func4, Try.ntmps4
    go_wp2
    go_ret
    exact ⟨rfl, Below.refl _ _⟩
  by_cases h2 : i < 0
  · clear ho
    go_enter Try.func4, Try.ntmps4
    go_wp2
    go_ret
    exact ⟨rfl, Below.refl _ _⟩
  · have h3 : (s.size : Int) < i := by omega
    clear ho
    go_enter Try.func4, Try.ntmps4
    go_wp2
    go_ret
    exact ⟨rfl, Below.refl _ _⟩

/-- THE WALK, WHOLE. -/
theorem one_walk (s : ByteArray) (i c n : Int) (w : World) (hs : s.size ≤ maxLen) (hc : (Lit.int .u8 c).wf = true) (hn : (Lit.int .u64 n).wf = true) :
    Calls Try.prog 4 #[.string s, .int .i64 i, .int .u8 c, .int .u64 n] w fun e w' => e = .returned (.bool true) ∧ Below w.heap.size w w' := by
  have hb := bounds_u64 hn
  have hb8 := bounds_u8 hc
  by_cases ho : 1048576 < s.size ∨ i < 0 ∨ (s.size : Int) < i
  · exact one_out s i c n w (by unfold maxLen at hs; exact hs) ho
  · obtain ⟨j, rfl⟩ : ∃ j : Nat, i = j := ⟨i.toNat, by omega⟩
    by_cases hd : 48 ≤ c ∧ c ≤ 57
    · exact one_yes s j c n w (by omega) (by omega) hb.1 hb.2 hd.1 hd.2
    · exact one_no s j c n w (by omega) (by omega) hb.1 hb.2 hb8.1 hb8.2 (by omega)

end Go.Proofs.Qxb6617109a
