/-
  Seat b6617097a: FnNewestAfterANewerWrite: the plain law, and zzMax.
-/
import Derived.Test.Qxb6617097aRead2
import Derived.Test.Qxb6617097aLubW
namespace Go.Proofs.Qxb6617097a
open Go.RowKit Go.Maps

/-- Go's zzMax. -/
def maxV (a b : Int) : Int := if b < a then a else b

theorem zzMax_any (a b : Int) (w : World) : Calls Try.prog 17 #[.int .u64 a, .int .u64 b] w fun e w' => e = .returned (.int .u64 (maxV a b)) ∧ w' = w := by
  by_cases h : b < a
  · have e : maxV a b = a := if_pos h
    rw [e]
    go_enter Try.func17, Try.ntmps17
    go_wp2
    go_ret
    exact ⟨rfl, rfl⟩
  · have e : maxV a b = b := if_neg h
    rw [e]
    go_enter Try.func17, Try.ntmps17
    go_wp2
    go_ret
    exact ⟨rfl, rfl⟩

/-- Is the key among the first k asked? -/
def askedB (key : ByteArray) (T : Nat → ByteArray) : Nat → Bool
  | 0 => false
  | k + 1 => askedB key T k || ((T k).toList == key.toList)
theorem askedB_hit {key : ByteArray} {T : Nat → ByteArray} {k : Nat} (h : ((T k).toList == key.toList) = true) : askedB key T (k + 1) = true := by simp only [askedB, h, Bool.or_true]
theorem askedB_miss {key : ByteArray} {T : Nat → ByteArray} {k : Nat} (h : ((T k).toList == key.toList) = false) : askedB key T (k + 1) = askedB key T k := by simp only [askedB, h, Bool.or_false]

/-- What the map says behind the write. -/
def updV (g : List UInt8 → Option Int) (s : List UInt8) (v : Int) : List UInt8 → Option Int := fun t => if t = s then some v else g t
theorem updV_same {g : List UInt8 → Option Int} {s : List UInt8} {v : Int} : updV g s v s = some v := by simp [updV]
theorem updV_other {g : List UInt8 → Option Int} {s t : List UInt8} {v : Int} (h : ¬ t = s) : updV g s v t = g t := by simp [updV, h]

theorem newestV_asked {fl v : Int} {g : List UInt8 → Option Int} {key : ByteArray} {T : Nat → ByteArray} (hle : ∀ t x, g t = some x → x ≤ v) : ∀ k,
    (askedB key T k = false → newestV fl (updV g key.data.toList v) T k = newestV fl g T k) ∧ (askedB key T k = true → newestV fl (updV g key.data.toList v) T k = maxV fl v) ∧ newestV fl g T k ≤ maxV fl v
  | 0 => ⟨fun _ => rfl, fun h => (by cases h), (by show fl ≤ _; unfold maxV; split <;> omega)⟩
  | k + 1 => by
    obtain ⟨h1, h2, h3⟩ := newestV_asked (fl := fl) (v := v) (g := g) (key := key) (T := T) hle k
    have h4 : newestV fl g T (k + 1) ≤ maxV fl v := by
      rcases hg : g (T k).data.toList with _ | x
      · rw [newestV_none hg]; exact h3
      · have := hle _ _ hg
        by_cases hlt : newestV fl g T k < x
        · rw [newestV_lt hg hlt]; unfold maxV; split <;> omega
        · rw [newestV_ge hg hlt]; exact h3
    have hflv : v ≤ maxV fl v := by unfold maxV; split <;> omega
    have hfl := newestV_fl fl g T k
    refine ⟨fun hA => ?_, fun hA => ?_, h4⟩
    · cases hk : ((T k).toList == key.toList) with
      | true => rw [askedB_hit hk] at hA; cases hA
      | false =>
        rw [askedB_miss hk] at hA
        have hne : ¬ (T k).data.toList = key.data.toList := fun e => other_of hk e.symm
        have e1 := updV_other (g := g) (v := v) hne
        rcases hg : g (T k).data.toList with _ | x
        · rw [newestV_none (e1.trans hg), newestV_none hg]; exact h1 hA
        · by_cases hlt : newestV fl g T k < x
          · rw [newestV_lt (e1.trans hg) (by rw [h1 hA]; exact hlt), newestV_lt hg hlt]
          · rw [newestV_ge (e1.trans hg) (by rw [h1 hA]; exact hlt), newestV_ge hg hlt]; exact h1 hA
    · cases hk : ((T k).toList == key.toList) with
      | true =>
        have he : (T k).data.toList = key.data.toList := (same_of hk).symm
        have e1 : updV g key.data.toList v (T k).data.toList = some v := by rw [he]; exact updV_same
        cases hA' : askedB key T k with
        | true =>
          have := h2 hA'
          rw [newestV_ge e1 (by rw [this]; omega), this]
        | false =>
          have h5 := h1 hA'
          by_cases hlt : newestV fl g T k < v
          · rw [newestV_lt e1 (by rw [h5]; exact hlt)]
            unfold maxV; rw [if_neg (by omega)]
          · rw [newestV_ge e1 (by rw [h5]; exact hlt), h5]
            unfold maxV at h3 ⊢; split at h3 <;> rename_i hm
            · rw [if_pos hm]; omega
            · rw [if_neg hm]; omega
      | false =>
        rw [askedB_miss hk] at hA
        have hne : ¬ (T k).data.toList = key.data.toList := fun e => other_of hk e.symm
        have e1 := updV_other (g := g) (v := v) hne
        have h6 := h2 hA
        rcases hg : g (T k).data.toList with _ | x
        · rw [newestV_none (e1.trans hg)]; exact h6
        · have := hle _ _ hg
          rw [newestV_ge (e1.trans hg) (by rw [h6]; omega)]; exact h6

theorem lastV_le {S : Nat → ByteArray} {V : Nat → Int} {v : Int} : ∀ {n : Nat}, (∀ j, j < n → V j ≤ v) → ∀ t x, lastV S V n t = some x → x ≤ v
  | 0, _, _, _, h => by cases h
  | n + 1, hV, t, x, h => by
    by_cases e : t = (S n).data.toList
    · rw [lastV_hit e] at h; cases h; exact hV n (by omega)
    · rw [lastV_miss e] at h
      exact lastV_le (fun j hj => hV j (by omega)) t x h

/-- The key is not asked: the answer stays. -/
theorem after_unasked {fl v : Int} {g : List UInt8 → Option Int} {key : ByteArray} {T : Nat → ByteArray} {m : Nat} (hle : ∀ t x, g t = some x → x ≤ v) (h : askedB key T m = false) :
    newestR fl (updV g key.data.toList v) T m = newestR fl g T m := by
  unfold newestR
  by_cases h0 : m = 0
  · rw [if_pos h0, if_pos h0]
  · rw [if_neg h0, if_neg h0]; exact (newestV_asked hle m).1 h

/-- The key is asked. -/
theorem after_asked {fl v : Int} {g : List UInt8 → Option Int} {key : ByteArray} {T : Nat → ByteArray} {m : Nat} (hle : ∀ t x, g t = some x → x ≤ v) (h : askedB key T m = true) :
    newestR fl (updV g key.data.toList v) T m = maxV (newestR fl g T m) v ∧ newestR fl (updV g key.data.toList v) T m = maxV fl v := by
  by_cases h0 : m = 0
  · subst h0; cases h
  · obtain ⟨_, h2, h3⟩ := newestV_asked (fl := fl) (v := v) (g := g) (key := key) (T := T) hle m
    have hfl := newestV_fl fl g T m
    unfold newestR
    rw [if_neg h0, if_neg h0, h2 h]
    refine ⟨?_, rfl⟩
    unfold maxV at h3 ⊢
    split at h3 <;> rename_i hm
    · rw [if_pos hm]; split <;> omega
    · rw [if_neg hm]; split <;> omega

theorem Strs.at {w : World} {b off m : Nat} {T : Nat → ByteArray} (h : Strs w (some ⟨b, off, none⟩) m T) {i : Nat} (hi : i < m) : w.cell? ⟨b, off + i, none⟩ = some (.string (T i)) := by
  obtain ⟨_, _, h0 | ⟨b', off', he, _, hc⟩⟩ := h
  · omega
  · cases he; exact hc i hi

end Go.Proofs.Qxb6617097a
