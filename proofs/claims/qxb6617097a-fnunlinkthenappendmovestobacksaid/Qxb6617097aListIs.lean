/-
  Seat b6617097a: the walk of zzListIs.
-/
import Derived.Test.Qxb6617097aListW
namespace Go.Proofs.Qxb6617097a
open Go.RowKit

theorem und33 : Try.prog.underlying 33 = some (.pointer (Try.prog.pointee 33)) := by kernel_rfl
theorem size53 (w : World) : (sizeOf (Try.prog.pointee 33)).run Try.prog w = .ok 4 w := by kernel_rfl
theorem eqIn_self (d b : Nat) (w : World) : (Op.equalIn (d + 1) 33 (.pointer (some ⟨b, 0, none⟩)) (.pointer (some ⟨b, 0, none⟩))).run Try.prog w = .ok true w := by
  simp [Op.equalIn, run_underlying und33, size53, sameAddr]
theorem neq_self (b : Nat) (w : World) : (binOp .neq 33 (.pointer (some ⟨b, 0, none⟩)) (.pointer (some ⟨b, 0, none⟩))).run Try.prog w = .ok (.bool false) w := by
  simp only [binOp]
  simp [Op.equal, Op.maxDepth, eqIn_self 9999]

set_option maxHeartbeats 1000000 in
/-- Over plain functions: P i: the pointer met at place i going on; Q i: the pointer ahead of place i; B i: the node's block. -/
theorem listIs_core (W wb wo len cap : Nat) (B : Nat → Nat) (P Q : Nat → Value) (w : World) (hlen : len ≤ 1048576) (hf : w.cell? ⟨W, 1, none⟩ = some (P 0)) (hb : w.cell? ⟨W, 2, none⟩ = some (Q len))
    (hP : ∀ i, i < len → P i = .pointer (some ⟨B i, 0, none⟩)) (hPl : P len = .pointer none) (hQ : ∀ i, i < len → Q (i + 1) = .pointer (some ⟨B i, 0, none⟩)) (hQ0 : Q 0 = .pointer none)
    (hn : ∀ i, i < len → w.cell? ⟨B i, 3, none⟩ = some (P (i + 1))) (ho : ∀ i, i < len → w.cell? ⟨B i, 2, none⟩ = some (Q i)) (hw : ∀ i, i < len → w.cell? ⟨wb, wo + i, none⟩ = some (.pointer (some ⟨B i, 0, none⟩))) :
    Calls Try.prog 20 #[.pointer (some ⟨W, 0, none⟩), .slice (some ⟨wb, wo, none⟩) len cap] w fun e w' => e = .returned (.bool true) ∧ w' = w := by
  have hne := neq_self
  go_enter Try.func20, Try.ntmps20
  go_wp2
  go_loopg [5, 6] len (fun gk p i wr => wr = w ∧ ∃ k : Nat, k ≤ len ∧ gk = len - k ∧ i = .int .i64 k ∧ p = P k)
  case atStart => exact ⟨rfl, 0, Nat.zero_le _, rfl, rfl, rfl⟩
  case round =>
    obtain ⟨hw0, k, hk, rfl, rfl, rfl⟩ := hrel
    subst hw0
    by_cases hkn : k < len
    · have e1 := hP k hkn
      have e2 := hw k hkn
      have e3 := hn k hkn
      clear hP hw hn ho hQ hf hb hPl hQ0
      go_wp2
      go_roundg (len - (k + 1))
      case rel => exact ⟨rfl, k + 1, by omega, rfl, by go_num, rfl⟩
      case measure => omega
    · obtain rfl : len = k := by omega
      clear hP hf hn
      go_wp2
      go_loopg [5, 7] len (fun gk p i wx => wx = wr ∧ ∃ k : Nat, k ≤ len ∧ k = gk ∧ i = .int .i64 ((k : Int) - 1) ∧ p = Q k)
      case atStart => exact ⟨rfl, len, Nat.le_refl _, rfl, rfl, rfl⟩
      case round =>
        obtain ⟨hw1, k, hk2, rfl, rfl, rfl⟩ := hrel
        subst hw1
        by_cases hk0 : 0 < k
        · obtain ⟨j, rfl⟩ : ∃ j, k = j + 1 := ⟨k - 1, by omega⟩
          have e1 := hQ j (by omega)
          have e2 := hw j (by omega)
          have e3 := ho j (by omega)
          clear hw ho hQ hb hPl hQ0
          go_wp2
          go_roundg j
          case rel => exact ⟨rfl, j, by omega, rfl, by go_num, rfl⟩
          case measure => omega
        · obtain rfl : k = 0 := by omega
          clear hw ho hQ hb hPl
          go_wp2
          go_ret
          exact ⟨rfl, rfl⟩

/-- zzListIs says true of the list itself. -/
theorem listIs_any (W wb cap len : Nat) (ns : List Nat) (w : World) (h : DL w W ns) (hl : ns.length = len) (hlen : len ≤ 1048576) (hw : ∀ i b, ns[i]? = some b → w.cell? ⟨wb, i, none⟩ = some (.pointer (some ⟨b, 0, none⟩))) :
    Calls Try.prog 20 #[.pointer (some ⟨W, 0, none⟩), .slice (some ⟨wb, 0, none⟩) len cap] w fun e w' => e = .returned (.bool true) ∧ w' = w := by
  subst hl
  have hg : ∀ i, i < ns.length → ns[i]? = some (ns.getD i 0) := fun i hi => by simp [List.getD, hi]
  have hback := h.prv ns.length (Nat.le_refl _)
  rw [List.getElem?_eq_none (Nat.le_refl _)] at hback
  refine listIs_core W wb 0 ns.length cap (fun i => ns.getD i 0) (fun i => pt ns[i]?) (fun i => pt (prev ns i)) w hlen (h.nxt 0 (Nat.zero_le _)) hback (fun i hi => ?_) ?_ (fun i hi => ?_) rfl (fun i hi => ?_) (fun i hi => ?_) (fun i hi => ?_)
  · show pt ns[i]? = _
    rw [hg i hi]; rfl
  · show pt ns[ns.length]? = _
    rw [List.getElem?_eq_none (Nat.le_refl _)]; rfl
  · show pt (prev ns (i + 1)) = _
    rw [prev_succ, hg i hi]; rfl
  · have := h.nxt (i + 1) (by omega)
    rw [prev_succ, hg i hi] at this
    exact this
  · have := h.prv i (by omega)
    rw [hg i hi] at this
    exact this
  · rw [Nat.zero_add]
    exact hw i _ (hg i hi)

end Go.Proofs.Qxb6617097a
