/-
  Seat b6617097a: the walks of append, unlink, zzListIs.
-/
import Derived.Test.Qxb6617097aList
import Derived.Test.Qxb6617097aMapW
import Derived.RegionTactic
import Derived.ChangeAlike
namespace Go.Proofs.Qxb6617097a
open Go.RowKit

set_option maxHeartbeats 400000 in
theorem append_nil (W x : Nat) (w : World) (v2 : Value) (c2 : w.cell? ⟨x, 2, none⟩ = some v2) (f2 : w.frozen? ⟨x, 2, none⟩ = false) (hb : w.cell? ⟨W, 2, none⟩ = some (.pointer none)) (v1 : Value) (hf : w.cell? ⟨W, 1, none⟩ = some v1)
    (fb : w.frozen? ⟨W, 2, none⟩ = false) (ff : w.frozen? ⟨W, 1, none⟩ = false) (hxW : ¬ x = W) :
    Calls Try.prog 34 #[.pointer (some ⟨W, 0, none⟩), .pointer (some ⟨x, 0, none⟩)] w fun e w' => e = .returned (.tuple #[]) ∧ w' = ((w.setCell ⟨x, 2, none⟩ (.pointer none)).setCell ⟨W, 1, none⟩ (.pointer (some ⟨x, 0, none⟩))).setCell ⟨W, 2, none⟩ (.pointer (some ⟨x, 0, none⟩)) := by
  have hWx : ¬ W = x := fun e => hxW e.symm
  go_enter Try.func34, Try.ntmps34
  go_wp2
  go_end0
  exact ⟨rfl, rfl⟩

set_option maxHeartbeats 400000 in
theorem append_cons (W x bk : Nat) (w : World) (v2 v3 : Value) (c2 : w.cell? ⟨x, 2, none⟩ = some v2) (f2 : w.frozen? ⟨x, 2, none⟩ = false) (hb : w.cell? ⟨W, 2, none⟩ = some (.pointer (some ⟨bk, 0, none⟩))) (c3 : w.cell? ⟨bk, 3, none⟩ = some v3)
    (fb : w.frozen? ⟨W, 2, none⟩ = false) (f3 : w.frozen? ⟨bk, 3, none⟩ = false) (hxW : ¬ x = W) (hbx : ¬ bk = x) (hbW : ¬ bk = W) :
    Calls Try.prog 34 #[.pointer (some ⟨W, 0, none⟩), .pointer (some ⟨x, 0, none⟩)] w fun e w' => e = .returned (.tuple #[]) ∧ w' = ((w.setCell ⟨x, 2, none⟩ (.pointer (some ⟨bk, 0, none⟩))).setCell ⟨bk, 3, none⟩ (.pointer (some ⟨x, 0, none⟩))).setCell ⟨W, 2, none⟩ (.pointer (some ⟨x, 0, none⟩)) := by
  have hWx : ¬ W = x := fun e => hxW e.symm
  have hxb : ¬ x = bk := fun e => hbx e.symm
  have hWb : ¬ W = bk := fun e => hbW e.symm
  go_enter Try.func34, Try.ntmps34
  go_wp2
  go_end0
  exact ⟨rfl, rfl⟩

/-- ZZAppend: the list is one node longer. -/
theorem zzappend_any (W x : Nat) (ns : List Nat) (w : World) (h : DL w W ns) (hx : x ∉ ns) (hxW : x ≠ W) (c2 : (w.cell? ⟨x, 2, none⟩).isSome = true) (c3 : w.cell? ⟨x, 3, none⟩ = some (.pointer none)) (fx : ∀ o, w.frozen? ⟨x, o, none⟩ = false) :
    Calls Try.prog 22 #[.pointer (some ⟨W, 0, none⟩), .pointer (some ⟨x, 0, none⟩)] w fun e w' => e = .returned (.tuple #[]) ∧ DL w' W (ns ++ [x]) ∧ Touch w w' (x :: W :: ns) := by
  have key : Calls Try.prog 34 #[.pointer (some ⟨W, 0, none⟩), .pointer (some ⟨x, 0, none⟩)] w fun e w' => e = .returned (.tuple #[]) ∧ w' = appW w W ns x := by
    obtain ⟨v2, hv2⟩ := Option.isSome_iff_exists.1 c2
    have hback : w.cell? ⟨W, 2, none⟩ = some (pt (prev ns ns.length)) := by
      have := h.prv ns.length (Nat.le_refl _)
      rwa [List.getElem?_eq_none (Nat.le_refl _)] at this
    have hslot := h.nxt ns.length (Nat.le_refl _)
    have hfW := fun o => h.frozen W (Or.inl rfl) o
    cases hp : prev ns ns.length with
    | none =>
      unfold appW
      rw [hp] at hback hslot ⊢
      exact append_nil W x w v2 hv2 (fx 2) hback _ hslot (hfW 2) (hfW 1) hxW
    | some bk =>
      have hb : bk ∈ ns := by
        cases hl : ns.length with
        | zero => rw [hl, prev_zero] at hp; cases hp
        | succ l => rw [hl, prev_succ] at hp; exact List.mem_of_getElem? hp
      unfold appW
      rw [hp] at hback hslot ⊢
      exact append_cons W x bk w v2 _ hv2 (fx 2) hback hslot (hfW 2) (h.frozen bk (Or.inr hb) 3) hxW (fun e => hx (e ▸ hb)) (fun e => h.apart (e ▸ hb))
  have HR := hide (And.intro (h.append hx hxW c2 c3 fx) (appW_touch w W ns x))
  have HK := hide key
  clear key h c2 c3 fx
  go_enter Try.func22, Try.ntmps22
  go_wp2_with (go_at_call 34; refine HK.out.mono ?_; rintro e w' ⟨rfl, hw⟩; obtain rfl := hw.symm)
  go_end0
  exact ⟨rfl, HR.out⟩

set_option maxHeartbeats 400000 in
theorem unlink_nn (W x : Nat) (w : World) (v1 v2 : Value) (c2 : w.cell? ⟨x, 2, none⟩ = some (.pointer none)) (c3 : w.cell? ⟨x, 3, none⟩ = some (.pointer none)) (hf : w.cell? ⟨W, 1, none⟩ = some v1) (hb : w.cell? ⟨W, 2, none⟩ = some v2)
    (fx : ∀ o, w.frozen? ⟨x, o, none⟩ = false) (fW : ∀ o, w.frozen? ⟨W, o, none⟩ = false) (hxW : ¬ x = W) :
    Calls Try.prog 35 #[.pointer (some ⟨W, 0, none⟩), .pointer (some ⟨x, 0, none⟩)] w fun e w' => e = .returned (.tuple #[]) ∧ ∃ n, w' = (unlW w W none none x).drewN n := by
  have hWx : ¬ W = x := fun e => hxW e.symm
  go_enter Try.func35, Try.ntmps35
  go_wp2
  go_end0
  exact ⟨rfl, 0, rfl⟩

set_option maxHeartbeats 400000 in
theorem unlink_ns (W x q : Nat) (w : World) (v1 v2 : Value) (c2 : w.cell? ⟨x, 2, none⟩ = some (.pointer none)) (c3 : w.cell? ⟨x, 3, none⟩ = some (.pointer (some ⟨q, 0, none⟩))) (hf : w.cell? ⟨W, 1, none⟩ = some v1) (hq : w.cell? ⟨q, 2, none⟩ = some v2)
    (fx : ∀ o, w.frozen? ⟨x, o, none⟩ = false) (fW : ∀ o, w.frozen? ⟨W, o, none⟩ = false) (fq : ∀ o, w.frozen? ⟨q, o, none⟩ = false) (hxW : ¬ x = W) (hqx : ¬ q = x) (hqW : ¬ q = W) :
    Calls Try.prog 35 #[.pointer (some ⟨W, 0, none⟩), .pointer (some ⟨x, 0, none⟩)] w fun e w' => e = .returned (.tuple #[]) ∧ ∃ n, w' = (unlW w W none (some q) x).drewN n := by
  have hWx : ¬ W = x := fun e => hxW e.symm
  have hxq : ¬ x = q := fun e => hqx e.symm
  have hWq : ¬ W = q := fun e => hqW e.symm
  go_enter Try.func35, Try.ntmps35
  go_wp2
  go_region
  all_goals go_wp2
  all_goals go_end0
  all_goals exact ⟨rfl, 1, rfl⟩

set_option maxHeartbeats 400000 in
theorem unlink_sn (W x p : Nat) (w : World) (v1 v2 : Value) (c2 : w.cell? ⟨x, 2, none⟩ = some (.pointer (some ⟨p, 0, none⟩))) (c3 : w.cell? ⟨x, 3, none⟩ = some (.pointer none)) (hp : w.cell? ⟨p, 3, none⟩ = some v1) (hb : w.cell? ⟨W, 2, none⟩ = some v2)
    (fx : ∀ o, w.frozen? ⟨x, o, none⟩ = false) (fW : ∀ o, w.frozen? ⟨W, o, none⟩ = false) (fp : ∀ o, w.frozen? ⟨p, o, none⟩ = false) (hxW : ¬ x = W) (hpx : ¬ p = x) (hpW : ¬ p = W) :
    Calls Try.prog 35 #[.pointer (some ⟨W, 0, none⟩), .pointer (some ⟨x, 0, none⟩)] w fun e w' => e = .returned (.tuple #[]) ∧ ∃ n, w' = (unlW w W (some p) none x).drewN n := by
  have hWx : ¬ W = x := fun e => hxW e.symm
  have hxp : ¬ x = p := fun e => hpx e.symm
  have hWp : ¬ W = p := fun e => hpW e.symm
  go_enter Try.func35, Try.ntmps35
  go_wp2
  go_region
  all_goals go_wp2
  all_goals go_end0
  all_goals exact ⟨rfl, 1, rfl⟩

set_option maxHeartbeats 800000 in
theorem unlink_ss (W x p q : Nat) (w : World) (v1 v2 : Value) (c2 : w.cell? ⟨x, 2, none⟩ = some (.pointer (some ⟨p, 0, none⟩))) (c3 : w.cell? ⟨x, 3, none⟩ = some (.pointer (some ⟨q, 0, none⟩))) (hp : w.cell? ⟨p, 3, none⟩ = some v1) (hq : w.cell? ⟨q, 2, none⟩ = some v2)
    (fx : ∀ o, w.frozen? ⟨x, o, none⟩ = false) (fp : ∀ o, w.frozen? ⟨p, o, none⟩ = false) (fq : ∀ o, w.frozen? ⟨q, o, none⟩ = false) (hpx : ¬ p = x) (hqx : ¬ q = x) (hpq : ¬ p = q) :
    Calls Try.prog 35 #[.pointer (some ⟨W, 0, none⟩), .pointer (some ⟨x, 0, none⟩)] w fun e w' => e = .returned (.tuple #[]) ∧ ∃ n, w' = (unlW w W (some p) (some q) x).drewN n := by
  have hxp : ¬ x = p := fun e => hpx e.symm
  have hxq : ¬ x = q := fun e => hqx e.symm
  have hqp : ¬ q = p := fun e => hpq e.symm
  go_enter Try.func35, Try.ntmps35
  go_wp2
  go_region
  all_goals go_wp2
  all_goals go_region
  all_goals go_wp2
  all_goals go_end0
  all_goals exact ⟨rfl, 2, rfl⟩

theorem unlink_any (W x i : Nat) (ns : List Nat) (w : World) (h : DL w W ns) (hi : ns[i]? = some x) (hil : i < ns.length) :
    Calls Try.prog 35 #[.pointer (some ⟨W, 0, none⟩), .pointer (some ⟨x, 0, none⟩)] w fun e w' => e = .returned (.tuple #[]) ∧ ∃ n, w' = (unlW w W (prev ns i) ns[i + 1]? x).drewN n := by
  have c2 : w.cell? ⟨x, 2, none⟩ = some (pt (prev ns i)) := by have := h.prv i (by omega); rw [hi] at this; exact this
  have c3 : w.cell? ⟨x, 3, none⟩ = some (pt ns[i + 1]?) := by have := h.nxt (i + 1) (by omega); rw [prev_succ, hi] at this; exact this
  have s1 := h.nxt i (by omega)
  have s2 := h.prv (i + 1) (by omega)
  have hxm : x ∈ ns := List.mem_of_getElem? hi
  have fx := h.frozen x (Or.inr hxm)
  have fW := h.frozen W (Or.inl rfl)
  have hxW : ¬ x = W := fun e => h.apart (e ▸ hxm)
  have inj : ∀ {k l : Nat} {b : Nat}, ns[k]? = some b → ns[l]? = some b → k = l := fun {k l b} hk hl =>
    (List.getElem?_inj (List.getElem?_eq_some_iff.1 hk).1 h.nodup).1 (hk.trans hl.symm)
  have hprev : ∀ p, prev ns i = some p → 1 ≤ i ∧ ns[i - 1]? = some p := fun p hp => by
    cases i with
    | zero => rw [prev_zero] at hp; cases hp
    | succ j => exact ⟨by omega, by rw [prev_succ] at hp; exact hp⟩
  cases hp : prev ns i with
  | none =>
    cases hq : ns[i + 1]? with
    | none =>
      rw [hp] at c2 s1
      rw [hq] at c3 s2
      exact unlink_nn W x w _ _ c2 c3 s1 s2 fx fW hxW
    | some q =>
      rw [hp] at c2 s1
      rw [hq] at c3 s2
      have hqm : q ∈ ns := List.mem_of_getElem? hq
      exact unlink_ns W x q w _ _ c2 c3 s1 s2 fx fW (h.frozen q (Or.inr hqm)) hxW (fun e => by subst e; have := inj hi hq; omega) (fun e => h.apart (e ▸ hqm))
  | some p =>
    obtain ⟨h1, hpi⟩ := hprev p hp
    have hpm : p ∈ ns := List.mem_of_getElem? hpi
    cases hq : ns[i + 1]? with
    | none =>
      rw [hp] at c2 s1
      rw [hq] at c3 s2
      exact unlink_sn W x p w _ _ c2 c3 s1 s2 fx fW (h.frozen p (Or.inr hpm)) hxW (fun e => by subst e; have := inj hi hpi; omega) (fun e => h.apart (e ▸ hpm))
    | some q =>
      rw [hp] at c2 s1
      rw [hq] at c3 s2
      have hqm : q ∈ ns := List.mem_of_getElem? hq
      exact unlink_ss W x p q w _ _ c2 c3 s1 s2 fx (h.frozen p (Or.inr hpm)) (h.frozen q (Or.inr hqm)) (fun e => by subst e; have := inj hi hpi; omega) (fun e => by subst e; have := inj hi hq; omega) (fun e => by subst e; have := inj hpi hq; omega)

theorem unl_facts (w : World) (W x i : Nat) (ns : List Nat) (h : DL w W ns) (hi : ns[i]? = some x) (n : Nat) :
    DL ((unlW w W (prev ns i) ns[i + 1]? x).drewN n) W (ns.eraseIdx i) ∧ ((unlW w W (prev ns i) ns[i + 1]? x).drewN n).cell? ⟨x, 2, none⟩ = some (.pointer none) ∧ ((unlW w W (prev ns i) ns[i + 1]? x).drewN n).cell? ⟨x, 3, none⟩ = some (.pointer none) ∧ Touch w ((unlW w W (prev ns i) ns[i + 1]? x).drewN n) (W :: ns) := by
  obtain ⟨d1, d2, d3⟩ := h.unlink hi
  exact ⟨d1.drewN n, by rw [World.cell?_drewN]; exact d2, by rw [World.cell?_drewN]; exact d3, (unlW_touch hi).drewN n⟩

/-- ZZUnlink: the node at place i is out of the list, and linked to nothing. -/
theorem zzunlink_any (W x i : Nat) (ns : List Nat) (w : World) (h : DL w W ns) (hi : ns[i]? = some x) :
    Calls Try.prog 23 #[.pointer (some ⟨W, 0, none⟩), .pointer (some ⟨x, 0, none⟩)] w fun e w' => e = .returned (.tuple #[]) ∧ DL w' W (ns.eraseIdx i) ∧ w'.cell? ⟨x, 2, none⟩ = some (.pointer none) ∧ w'.cell? ⟨x, 3, none⟩ = some (.pointer none) ∧ Touch w w' (W :: ns) := by
  have hil : i < ns.length := (List.getElem?_eq_some_iff.1 hi).1
  have key := unlink_any W x i ns w h hi hil
  have HR := hide (unl_facts w W x i ns h hi)
  have HK := hide key
  clear key h hi hil
  go_enter Try.func23, Try.ntmps23
  go_wp2_with (go_at_call 35; refine HK.out.mono ?_; rintro e w' ⟨rfl, hw⟩; have HW := hide hw; clear hw)
  go_end0
  obtain ⟨n, rfl⟩ := HW.out
  exact ⟨rfl, HR.out n⟩

end Go.Proofs.Qxb6617097a
