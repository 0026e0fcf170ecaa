/-
  Seat b6617097a: the walk of FnNewestIsLeastUpperBound.
-/
import Derived.Test.Qxb6617097aRead2
import Derived.Test.Qxb6617097aNewest2
namespace Go.Proofs.Qxb6617097a
open Go.RowKit Go.Maps

theorem info9 : (Try.prog.info? 9).map (fun i => (i.zero, i.size, i.bytes)) = some (some (.string ByteArray.empty), 1, 16) := by kernel_rfl

/-- The query's copy: the cells laid over the new row are the row. -/
theorem splice_all {α : Type} (L cs : List α) (h : cs.length = L.length) : splice L 0 cs = cs := by
  unfold splice
  rw [List.drop_eq_nil_of_le (by omega)]
  simp

/-- The cells that the copy brings over. -/
def strCells (T : Nat → ByteArray) (m : Nat) : List Value := (List.range m).map fun i => Value.string (T i)
theorem strCells_length (T : Nat → ByteArray) (m : Nat) : (strCells T m).length = m := by simp [strCells]
theorem strCells_at {T : Nat → ByteArray} {m j : Nat} {v : Value} (h : (strCells T m)[j]? = some v) : j < m ∧ v = .string (T j) := by
  have hj : j < m := by have := (List.getElem?_eq_some_iff.1 h).1; rwa [strCells_length] at this
  refine ⟨hj, ?_⟩
  simp [strCells, hj] at h
  exact h.symm
theorem strCells_one (T : Nat → ByteArray) (m : Nat) : ∀ v ∈ strCells T m, v.oneCell' = true := by
  intro v hv
  obtain ⟨j, hj⟩ := List.getElem?_of_mem hv
  rw [(strCells_at hj).2]; rfl

theorem copy_src {w : World} {ad : Addr} {m : Nat} {T : Nat → ByteArray} (ht : Strs w (some ad) m T) (o : Obj) (j : Nat) (v : Value) (h : (strCells T m)[j]? = some v) : (w.alloc o).cell? (ad.add j) = some v := by
  obtain ⟨hj, rfl⟩ := strCells_at h
  obtain ⟨_, _, h0 | ⟨b, off, he, hlt, hc⟩⟩ := ht
  · omega
  · cases he
    rw [WideShapes.add_plain, World.cell?_alloc_lt _ _ _ (by exact hlt)]
    exact hc j hj

theorem strs_row {w : World} {N m : Nat} {T : Nat → ByteArray} (hm : m ≤ maxLen) (hsz : ∀ i, i < m → (T i).size ≤ maxLen) (L : List Value) (hL : L.length = m)
    (h : w.heap[N]? = some (.cells (splice L 0 (strCells T m)).toArray 9 (0, 0))) : Strs w (some ⟨N, 0, none⟩) m T := by
  rw [splice_all _ _ (by rw [strCells_length, hL])] at h
  refine ⟨hm, hsz, Or.inr ⟨N, 0, rfl, (Array.getElem?_eq_some_iff.1 h).1, fun i hi => ?_⟩⟩
  simp [World.cell?, h, strCells, hi]

/-- 'copy(zzc, query)' behind 'zzc := make([]string, len(query))'. -/
theorem wpList_copy_strs {w : World} {ops : Array Oper} {rest : List Oper} {o : Oper} {a : Act} {Q : Exit → Act → World → Prop} (hgd : o.guard = none) (d s : Operand)
    (ho : o.op = .call { callee := .builtin .copy, args := #[d, s], argTypes := #[22, 22] }) (ad : Addr) (m c3 : Nat) (T : Nat → ByteArray) (ht : Strs w (some ad) m T)
    (hd : a.eval d = .slice (some ⟨w.heap.size, 0, none⟩) m m) (hs : a.eval s = .slice (some ad) m c3)
    (h : ∀ w', Strs w' (some ⟨w.heap.size, 0, none⟩) m T → Below w.heap.size w w' → wpList Try.prog ops Q rest (a.put o.dst (goInt m)) w') :
    wpList Try.prog ops Q (o :: rest) a (w.alloc (.cells (madeCells #[.string ByteArray.empty] m) 9)) := by
  have hlen : (madeCells #[Value.string ByteArray.empty] m).toList.length = m := by rw [Array.length_toList, size_madeCells]
  refine wpList_copy_splice hgd d s 22 22 ho 9 Try.underlying22 (by kernel_rfl) _ _ m m m c3 hd hs w.heap.size 0 (madeCells #[.string ByteArray.empty] m).toList 9 ?_ (strCells T m) (by rw [strCells_length]; simp) (fun _ => ⟨rfl, ad, rfl, copy_src ht _⟩) (by rw [strCells_length, hlen]; omega) (strCells_one T m) w.heap.size w ((Below.refl _ _).alloc (Nat.le_refl _) _) (Nat.le_refl _) ?_
  · rw [Array.toArray_toList]; exact heap_alloc_new w _
  · intro w' hh hb
    rw [strCells_length]
    exact h w' (strs_row ht.1 ht.2.1 _ hlen hh.out) hb

set_option maxHeartbeats 1000000 in
theorem lub_some (a a2 : Option Addr) (ad : Addr) (n c nv c2 m c3 : Nat) (S T : Nat → ByteArray) (V : Nat → Int) (fl : Int) (w : World) (hn : n ≤ 4096) (hnv : nv ≤ 4096) (hm : m ≤ 4096)
    (hs : Strs w a n S) (hv : U64s w a2 nv V) (ht : Strs w (some ad) m T) :
    Calls Try.prog 3 #[.slice a n c, .slice a2 nv c2, .int .u64 fl, .slice (some ad) m c3] w fun e w' => e = .returned (.bool true) ∧ Below w.heap.size w w' := by
  have hb := hide (bytes9_any a (some ad) n c m c3 S T a2 nv c2 fl w hs ht)
  have hne := fun (w : World) (a : Option Addr) (n c : Nat) => run_neq_slice_nil_any (P := Try.prog) w 22 9 a n c 0 0 Try.underlying22
  have hmk := run_make_row' (P := Try.prog) 22 9 (.string ByteArray.empty) 16 Try.underlying22 info9 rfl .i64 .i64 m (by omega) (by omega)
  by_cases hnn : nv = n
  · subst hnn
    go_enter Try.func3, Try.ntmps3
    go_wp2_with (first | (go_at_call 9; refine hb.out.mono ?_; rintro e w' ⟨⟨t, rfl⟩, hw⟩; obtain rfl := hw.symm) | (refine wpList_copy_strs rfl (.tmp 37) (.tmp 38) rfl ad m c3 T ht rfl rfl ?_))
    · go_ret
      exact ⟨rfl, Below.refl _ _⟩
    intro w1 ht1 hB1
    have hs1 := hs.below hB1 (Nat.le_refl _)
    have hv1 := hv.below hB1 (Nat.le_refl _)
    have hl1 := hide (stringBytes_any a nv c S 0 w1 hs1)
    have hl2 := hide (fun t0 => stringBytes_any (some ⟨w.heap.size, 0, none⟩) m m T t0 w1 ht1)
    have hl3 := hide (writersOf_any a a2 nv c c2 S V fl w1 (by omega) hs1 hv1)
    clear hs hv ht hb hne hmk
    go_wp2_with (first
      | (go_at_call_of 10 (Value.slice a nv c); refine hl1.out.mono ?_; rintro e w' ⟨⟨t1, rfl⟩, hw⟩; obtain rfl := hw.symm)
      | (go_at_call_of 10 (Value.slice (some ⟨w.heap.size, 0, none⟩) m m); refine (hl2.out _).mono ?_; rintro e w' ⟨⟨t2, rfl⟩, hw⟩; obtain rfl := hw.symm)
      | (go_at_call 11; refine hl3.out.mono ?_; rintro e w2 ⟨rfl, hr⟩))
    · go_ret
      exact ⟨rfl, hB1⟩
    · go_ret
      exact ⟨rfl, hB1⟩
    · go_ret
      exact ⟨rfl, hB1⟩
    have hs2 := hs1.below hr.below (Nat.le_refl _)
    have hv2 := hv1.below hr.below (Nat.le_refl _)
    have ht2 := ht1.below hr.below (Nat.le_refl _)
    refine (newest_any (w1.heap.size + 1) w1.heap.size nv m m (some ⟨w.heap.size, 0, none⟩) T fl _ _ w2 ht2 hr.mp hr.map hr.floor hr.look).mono ?_
    rintro e w' ⟨rfl, hw⟩
    obtain rfl := hw.symm
    have hq := hide (isNewest_any fl a a2 (some ⟨w.heap.size, 0, none⟩) nv c c2 m m (lastV S V nv) T w2 hm ht2 (fun key => lastVersion_any a a2 nv c c2 S V key w2 (by omega) hs2 hv2))
    have hB2 := hB1.trans (hr.below.mono hB1.size)
    clear hl1 hl2 hl3 hs1 hv1 ht1 hs2 hv2 ht2 hr
    go_wp2_with (go_at_call 13; refine hq.out.mono ?_; rintro e w' ⟨rfl, hw⟩; obtain rfl := hw.symm)
    go_ret
    exact ⟨rfl, hB2⟩
  · go_enter Try.func3, Try.ntmps3
    go_wp2_with (first | (go_at_call 9; refine hb.out.mono ?_; rintro e w' ⟨⟨t, rfl⟩, hw⟩; obtain rfl := hw.symm) | (refine wpList_copy_strs rfl (.tmp 37) (.tmp 38) rfl ad m c3 T ht rfl rfl ?_))
    · go_ret
      exact ⟨rfl, Below.refl _ _⟩
    intro w1 ht1 hB1
    have hs1 := hs.below hB1 (Nat.le_refl _)
    have hl1 := hide (stringBytes_any a n c S 0 w1 hs1)
    have hl2 := hide (fun t0 => stringBytes_any (some ⟨w.heap.size, 0, none⟩) m m T t0 w1 ht1)
    clear hs hv ht hb hne hmk
    go_wp2_with (first
      | (go_at_call_of 10 (Value.slice a n c); refine hl1.out.mono ?_; rintro e w' ⟨⟨t1, rfl⟩, hw⟩; obtain rfl := hw.symm)
      | (go_at_call_of 10 (Value.slice (some ⟨w.heap.size, 0, none⟩) m m); refine (hl2.out _).mono ?_; rintro e w' ⟨⟨t2, rfl⟩, hw⟩; obtain rfl := hw.symm))
    all_goals
      go_ret
      exact ⟨rfl, hB1⟩

set_option maxHeartbeats 1000000 in
/-- The query is nil. -/
theorem lub_nil (a a2 : Option Addr) (n c nv c2 : Nat) (S : Nat → ByteArray) (V : Nat → Int) (fl : Int) (w : World) (hn : n ≤ 4096) (hnv : nv ≤ 4096)
    (hs : Strs w a n S) (hv : U64s w a2 nv V) :
    Calls Try.prog 3 #[.slice a n c, .slice a2 nv c2, .int .u64 fl, .slice none 0 0] w fun e w' => e = .returned (.bool true) ∧ Below w.heap.size w w' := by
  have ht : Strs w none 0 S := ⟨Nat.zero_le _, fun i hi => absurd hi (Nat.not_lt_zero i), Or.inl rfl⟩
  have hb := hide (bytes9_any a none n c 0 0 S S a2 nv c2 fl w hs ht)
  have hne := fun (w : World) (a : Option Addr) (n c : Nat) => run_neq_slice_nil_any (P := Try.prog) w 22 9 a n c 0 0 Try.underlying22
  have hl1 := hide (stringBytes_any a n c S 0 w hs)
  have hl2 := hide (fun t0 => stringBytes_any none 0 0 S t0 w ht)
  by_cases hnn : nv = n
  · subst hnn
    have hl3 := hide (writersOf_any a a2 nv c c2 S V fl w (by omega) hs hv)
    go_enter Try.func3, Try.ntmps3
    go_wp2_with (first
      | (go_at_call 9; refine hb.out.mono ?_; rintro e w' ⟨⟨t, rfl⟩, hw⟩; obtain rfl := hw.symm)
      | (go_at_call_of 10 (Value.slice none 0 0); refine (hl2.out _).mono ?_; rintro e w' ⟨⟨t2, rfl⟩, hw⟩; obtain rfl := hw.symm)
      | (go_at_call_of 10 (Value.slice a nv c); refine hl1.out.mono ?_; rintro e w' ⟨⟨t1, rfl⟩, hw⟩; obtain rfl := hw.symm)
      | (go_at_call 11; refine hl3.out.mono ?_; rintro e w2 ⟨rfl, hr⟩))
    · go_ret
      exact ⟨rfl, Below.refl _ _⟩
    · go_ret
      exact ⟨rfl, Below.refl _ _⟩
    · go_ret
      exact ⟨rfl, Below.refl _ _⟩
    · go_ret
      exact ⟨rfl, Below.refl _ _⟩
    have hs2 := hs.below hr.below (Nat.le_refl _)
    have hv2 := hv.below hr.below (Nat.le_refl _)
    have ht2 := ht.below hr.below (Nat.le_refl _)
    refine (newest_any (w.heap.size + 1) w.heap.size nv 0 0 none S fl _ _ w2 ht2 hr.mp hr.map hr.floor hr.look).mono ?_
    rintro e w' ⟨rfl, hw⟩
    obtain rfl := hw.symm
    have hq := hide (isNewest_any fl a a2 none nv c c2 0 0 (lastV S V nv) S w2 (by omega) ht2 (fun key => lastVersion_any a a2 nv c c2 S V key w2 (by omega) hs2 hv2))
    have hB2 := hr.below
    clear hl1 hl2 hl3 hs hv ht hs2 hv2 ht2 hr
    go_wp2_with (go_at_call 13; refine hq.out.mono ?_; rintro e w' ⟨rfl, hw⟩; obtain rfl := hw.symm)
    go_ret
    exact ⟨rfl, hB2⟩
  · go_enter Try.func3, Try.ntmps3
    go_wp2_with (first
      | (go_at_call 9; refine hb.out.mono ?_; rintro e w' ⟨⟨t, rfl⟩, hw⟩; obtain rfl := hw.symm)
      | (go_at_call_of 10 (Value.slice none 0 0); refine (hl2.out _).mono ?_; rintro e w' ⟨⟨t2, rfl⟩, hw⟩; obtain rfl := hw.symm)
      | (go_at_call_of 10 (Value.slice a n c); refine hl1.out.mono ?_; rintro e w' ⟨⟨t1, rfl⟩, hw⟩; obtain rfl := hw.symm))
    all_goals
      go_ret
      exact ⟨rfl, Below.refl _ _⟩

set_option maxHeartbeats 1000000 in
/-- One of the three is longer than 4096. -/
theorem lub_long (a a2 d : Option Addr) (n c nv c2 m c3 : Nat) (S T : Nat → ByteArray) (fl : Int) (w : World) (hl : 4096 < n ∨ 4096 < nv ∨ 4096 < m) (hs : Strs w a n S) (ht : Strs w d m T) :
    Calls Try.prog 3 #[.slice a n c, .slice a2 nv c2, .int .u64 fl, .slice d m c3] w fun e w' => e = .returned (.bool true) ∧ Below w.heap.size w w' := by
  have hb := hide (bytes9_any a d n c m c3 S T a2 nv c2 fl w hs ht)
  clear hs ht
  by_cases h1 : 4096 < n
  · clear hl
    go_enter Try.func3, Try.ntmps3
    go_wp2_with (go_at_call 9; refine hb.out.mono ?_; rintro e w' ⟨⟨t, rfl⟩, hw⟩; obtain rfl := hw.symm)
    all_goals
      go_ret
      exact ⟨rfl, Below.refl _ _⟩
  by_cases h2 : 4096 < nv
  · clear hl
    go_enter Try.func3, Try.ntmps3
    go_wp2_with (go_at_call 9; refine hb.out.mono ?_; rintro e w' ⟨⟨t, rfl⟩, hw⟩; obtain rfl := hw.symm)
    all_goals
      go_ret
      exact ⟨rfl, Below.refl _ _⟩
  · have h3 : 4096 < m := by omega
    clear hl
    go_enter Try.func3, Try.ntmps3
    go_wp2_with (go_at_call 9; refine hb.out.mono ?_; rintro e w' ⟨⟨t, rfl⟩, hw⟩; obtain rfl := hw.symm)
    all_goals
      go_ret
      exact ⟨rfl, Below.refl _ _⟩

/-- THE WALK, WHOLE. (A nil slice: length and capacity nought.) -/
theorem lub_walk (a a2 d : Option Addr) (n c nv c2 m c3 : Nat) (S T : Nat → ByteArray) (V : Nat → Int) (fl : Int) (w : World) (hs : Strs w a n S) (hv : U64s w a2 nv V) (ht : Strs w d m T) (hd : d = none → m = 0 ∧ c3 = 0) :
    Calls Try.prog 3 #[.slice a n c, .slice a2 nv c2, .int .u64 fl, .slice d m c3] w fun e w' => e = .returned (.bool true) ∧ Below w.heap.size w w' := by
  by_cases hl : 4096 < n ∨ 4096 < nv ∨ 4096 < m
  · exact lub_long a a2 d n c nv c2 m c3 S T fl w hl hs ht
  · cases d with
    | none =>
      obtain ⟨rfl, rfl⟩ := hd rfl
      exact lub_nil a a2 n c nv c2 S V fl w (by omega) (by omega) hs hv
    | some ad => exact lub_some a a2 ad n c nv c2 m c3 S T V fl w (by omega) (by omega) (by omega) hs hv ht

end Go.Proofs.Qxb6617097a
