/-
  Seat b6617097a: THE DOUBLY LINKED LIST IN MEMORY, told by the list of its nodes' blocks; what an append and an unlink make of it. No walk here.
-/
import Derived.Test.Qxb6617097aMap
import Derived.Deep.Draws
import Derived.Deep.OwnRows
namespace Go.Proofs.Qxb6617097a
open Go.RowKit

/-- The node ahead of place i. -/
def prev (ns : List Nat) (i : Nat) : Option Nat := if i = 0 then none else ns[i - 1]?
theorem prev_zero (ns : List Nat) : prev ns 0 = none := rfl
theorem prev_succ (ns : List Nat) (i : Nat) : prev ns (i + 1) = ns[i]? := by simp [prev]

/-- The cell that leads on from a node (nil: the front's); the cell that leads back from a node (nil: the back's). -/
def slotN (W : Nat) : Option Nat → Addr
  | none => ⟨W, 1, none⟩
  | some b => ⟨b, 3, none⟩
def slotO (W : Nat) : Option Nat → Addr
  | none => ⟨W, 2, none⟩
  | some b => ⟨b, 2, none⟩

theorem slotN_ne_slotO (W : Nat) (p q : Option Nat) : slotN W p ≠ slotO W q := by
  cases p <;> cases q <;> simp [slotN, slotO]

/-- BLOCK W IS A 'writers' WHOSE LIST IS ns, front to back (each node its block). -/
structure DL (w : World) (W : Nat) (ns : List Nat) : Prop where
  nodup : ns.Nodup
  apart : W ∉ ns
  nxt : ∀ i, i ≤ ns.length → w.cell? (slotN W (prev ns i)) = some (pt ns[i]?)
  prv : ∀ i, i ≤ ns.length → w.cell? (slotO W ns[i]?) = some (pt (prev ns i))
  frozen : ∀ b, b = W ∨ b ∈ ns → ∀ o, w.frozen? ⟨b, o, none⟩ = false

theorem slotN_inj {W : Nat} {ns : List Nat} (hd : ns.Nodup) {i j : Nat} (hi : i ≤ ns.length) (hj : j ≤ ns.length) (h : slotN W (prev ns i) = slotN W (prev ns j)) : i = j := by
  cases i with
  | zero =>
    cases j with
    | zero => rfl
    | succ j =>
      rw [prev_zero, prev_succ, List.getElem?_eq_getElem (by omega)] at h
      simp [slotN] at h
  | succ i =>
    cases j with
    | zero =>
      rw [prev_zero, prev_succ, List.getElem?_eq_getElem (by omega)] at h
      simp [slotN] at h
    | succ j =>
      rw [prev_succ, prev_succ, List.getElem?_eq_getElem (by omega), List.getElem?_eq_getElem (by omega)] at h
      simp [slotN] at h
      have := (List.getElem_inj hd).1 h
      omega

theorem slotO_inj {W : Nat} {ns : List Nat} (hd : ns.Nodup) (hW : W ∉ ns) {i j : Nat} (hi : i ≤ ns.length) (hj : j ≤ ns.length) (h : slotO W ns[i]? = slotO W ns[j]?) : i = j := by
  by_cases ei : i = ns.length
  · by_cases ej : j = ns.length
    · omega
    · rw [ei, List.getElem?_eq_none (Nat.le_refl _), List.getElem?_eq_getElem (by omega : j < ns.length)] at h
      simp [slotO] at h
      exact absurd (h ▸ List.getElem_mem _) hW
  · by_cases ej : j = ns.length
    · rw [ej, List.getElem?_eq_none (Nat.le_refl _), List.getElem?_eq_getElem (by omega : i < ns.length)] at h
      simp [slotO] at h
      exact absurd (h ▸ List.getElem_mem _) hW
    · rw [List.getElem?_eq_getElem (by omega : i < ns.length), List.getElem?_eq_getElem (by omega : j < ns.length)] at h
      simp [slotO] at h
      exact (List.getElem_inj hd).1 h

theorem cell_set {w : World} {a b : Addr} {v : Value} (h : (w.cell? a).isSome = true) : (w.setCell a v).cell? b = if b = a then some v else w.cell? b := by
  by_cases e : b = a
  · subst e
    rw [if_pos rfl]
    obtain ⟨u, hu⟩ := Option.isSome_iff_exists.1 h
    exact World.cell?_setCell_same _ _ _ hu
  · rw [if_neg e]
    exact World.cell?_setCell_other _ _ _ _ (fun e' => e e'.symm)

/-- Nothing turned but cells of the blocks bs. -/
structure Touch (w w' : World) (bs : List Nat) : Prop where
  os : w'.os = w.os
  tape : w'.tape = w.tape
  output : w'.output = w.output
  size : w'.heap.size = w.heap.size
  frozen : ∀ a, w'.frozen? a = w.frozen? a
  block : ∀ k, k ∉ bs → w'.heap[k]? = w.heap[k]?

theorem Touch.refl (w : World) (bs : List Nat) : Touch w w bs := ⟨rfl, rfl, rfl, rfl, fun _ => rfl, fun _ _ => rfl⟩
theorem Touch.set {w w' : World} {bs : List Nat} (h : Touch w w' bs) {a : Addr} (ha : a.block ∈ bs) (v : Value) : Touch w (w'.setCell a v) bs :=
  ⟨h.os, h.tape, h.output, by simp [World.setCell, h.size], fun b => by rw [World.frozen?_setCell]; exact h.frozen b,
    fun k hk => by rw [Below.heap_setCell _ _ _ _ (fun e => hk (by rw [e]; exact ha))]; exact h.block k hk⟩
theorem Touch.drewN {w w' : World} {bs : List Nat} (h : Touch w w' bs) (n : Nat) : Touch w (w'.drewN n) bs := ⟨h.os, h.tape, h.output, h.size, h.frozen, h.block⟩
theorem Touch.trans {w w' w'' : World} {bs : List Nat} (h : Touch w w' bs) (k : Touch w' w'' bs) : Touch w w'' bs :=
  ⟨k.os.trans h.os, k.tape.trans h.tape, k.output.trans h.output, k.size.trans h.size, fun a => (k.frozen a).trans (h.frozen a), fun i hi => (k.block i hi).trans (h.block i hi)⟩
theorem Touch.below {w w' : World} {bs : List Nat} (h : Touch w w' bs) {N : Nat} (hN : ∀ b ∈ bs, N ≤ b) : Below N w w' :=
  ⟨h.os, h.tape, h.output, by rw [h.size]; exact Nat.le_refl _, fun k hk => h.block k (fun e => by have := hN k e; omega)⟩
theorem Touch.row {w w' : World} {bs : List Nat} (h : Touch w w' bs) {b : Nat} {t : TypeId} {n : Nat} {f : Nat → Value} (hb : b ∉ bs) (hr : w.rowIs b t n f) : w'.rowIs b t n f := hr.of_block (h.block b hb)

theorem DL.drewN {w : World} {W : Nat} {ns : List Nat} (h : DL w W ns) (n : Nat) : DL (w.drewN n) W ns := ⟨h.nodup, h.apart, h.nxt, h.prv, h.frozen⟩

/-- The same list where the list's own blocks are the same. -/
theorem DL.same {w w' : World} {W : Nat} {ns : List Nat} (h : DL w W ns) (hb : ∀ b, b = W ∨ b ∈ ns → w'.heap[b]? = w.heap[b]?) : DL w' W ns := by
  have hp : ∀ i, i ≤ ns.length → (slotN W (prev ns i)).block = W ∨ (slotN W (prev ns i)).block ∈ ns := by
    intro i hi
    cases i with
    | zero => exact Or.inl rfl
    | succ i =>
      rw [prev_succ, List.getElem?_eq_getElem (by omega)]
      exact Or.inr (List.getElem_mem _)
  have hq : ∀ i, i ≤ ns.length → (slotO W ns[i]?).block = W ∨ (slotO W ns[i]?).block ∈ ns := by
    intro i hi
    by_cases e : i = ns.length
    · rw [e, List.getElem?_eq_none (Nat.le_refl _)]; exact Or.inl rfl
    · rw [List.getElem?_eq_getElem (by omega)]; exact Or.inr (List.getElem_mem _)
  exact ⟨h.nodup, h.apart, fun i hi => (World.cell?_of_block (hb _ (hp i hi))).trans (h.nxt i hi), fun i hi => (World.cell?_of_block (hb _ (hq i hi))).trans (h.prv i hi),
    fun b hbb o => (World.frozen?_of_block (w := w) (a := ⟨b, o, none⟩) (hb b hbb)).trans (h.frozen b hbb o)⟩

/-! ### append -/
/-- The world behind 'append(last)', last in block x. -/
def appW (w : World) (W : Nat) (ns : List Nat) (x : Nat) : World :=
  ((w.setCell ⟨x, 2, none⟩ (pt (prev ns ns.length))).setCell (slotN W (prev ns ns.length)) (pt (some x))).setCell ⟨W, 2, none⟩ (pt (some x))

theorem some_of {w : World} {a : Addr} {v : Value} (h : w.cell? a = some v) : (w.cell? a).isSome = true := by rw [h]; rfl

theorem appW_cell {w : World} {W : Nat} {ns : List Nat} {x : Nat} (h : DL w W ns) (c2 : (w.cell? ⟨x, 2, none⟩).isSome = true) (a : Addr) :
    (appW w W ns x).cell? a = if a = ⟨W, 2, none⟩ then some (pt (some x)) else if a = slotN W (prev ns ns.length) then some (pt (some x)) else if a = ⟨x, 2, none⟩ then some (pt (prev ns ns.length)) else w.cell? a := by
  have g1 := some_of (h.nxt ns.length (Nat.le_refl _))
  have g2 : (w.cell? ⟨W, 2, none⟩).isSome = true := by
    have := some_of (h.prv ns.length (Nat.le_refl _))
    rwa [List.getElem?_eq_none (Nat.le_refl _)] at this
  unfold appW
  rw [cell_set, cell_set, cell_set c2]
  · rw [cell_set c2]; split
    · rfl
    · exact g1
  · rw [cell_set, cell_set c2]
    · split
      · rfl
      · split
        · rfl
        · exact g2
    · rw [cell_set c2]; split
      · rfl
      · exact g1

theorem getElem?_snoc_lt {ns : List Nat} {x i : Nat} (h : i < ns.length) : (ns ++ [x])[i]? = ns[i]? := by rw [List.getElem?_append_left h]
theorem prev_snoc {ns : List Nat} {x i : Nat} (h : i ≤ ns.length) : prev (ns ++ [x]) i = prev ns i := by
  cases i with
  | zero => rfl
  | succ i => rw [prev_succ, prev_succ, getElem?_snoc_lt (by omega)]

theorem DL.append {w : World} {W : Nat} {ns : List Nat} {x : Nat} (h : DL w W ns) (hx : x ∉ ns) (hxW : x ≠ W) (c2 : (w.cell? ⟨x, 2, none⟩).isSome = true) (c3 : w.cell? ⟨x, 3, none⟩ = some (.pointer none)) (fx : ∀ o, w.frozen? ⟨x, o, none⟩ = false) :
    DL (appW w W ns x) W (ns ++ [x]) := by
  have hc := appW_cell h c2
  refine ⟨?_, ?_, fun i hi => ?_, fun i hi => ?_, fun b hb o => ?_⟩
  · rw [List.nodup_append]
    refine ⟨h.nodup, by simp, fun a ha b hb => ?_⟩
    rw [List.mem_singleton] at hb
    subst hb
    exact fun e => hx (e ▸ ha)
  · intro hm
    rcases List.mem_append.1 hm with hm | hm
    · exact h.apart hm
    · rw [List.mem_singleton] at hm; exact hxW hm.symm
  · rw [List.length_append, List.length_singleton] at hi
    rw [hc]
    by_cases e : i = ns.length + 1
    · subst e
      rw [prev_succ, List.getElem?_append_right (Nat.le_refl _)]
      simp only [Nat.sub_self, List.getElem?_cons_zero]
      have n1 : slotN W (some x) ≠ ⟨W, 2, none⟩ := by simp [slotN]
      have n3 : slotN W (some x) ≠ ⟨x, 2, none⟩ := by simp [slotN]
      have n2 : slotN W (some x) ≠ slotN W (prev ns ns.length) := by
        cases hp : prev ns ns.length with
        | none => simp [slotN]
        | some b =>
          have hb : b ∈ ns := by
            cases hl : ns.length with
            | zero => rw [hl, prev_zero] at hp; cases hp
            | succ l => rw [hl, prev_succ] at hp; exact List.mem_of_getElem? hp
          intro e
          simp [slotN] at e
          exact hx (e ▸ hb)
      rw [if_neg n1, if_neg n2, if_neg n3, List.getElem?_eq_none (by simp)]
      exact c3
    · have hi' : i ≤ ns.length := by omega
      rw [prev_snoc hi']
      have n1 : slotN W (prev ns i) ≠ ⟨W, 2, none⟩ := slotN_ne_slotO W _ none
      have n3 : slotN W (prev ns i) ≠ ⟨x, 2, none⟩ := slotN_ne_slotO W _ (some x)
      rw [if_neg n1]
      by_cases el : i = ns.length
      · subst el
        rw [if_pos rfl, List.getElem?_append_right (Nat.le_refl _)]
        simp
      · have n2 : slotN W (prev ns i) ≠ slotN W (prev ns ns.length) := fun e => el (slotN_inj h.nodup hi' (Nat.le_refl _) e)
        rw [if_neg n2, if_neg n3, h.nxt i hi', getElem?_snoc_lt (by omega)]
  · rw [List.length_append, List.length_singleton] at hi
    rw [hc]
    by_cases e : i = ns.length + 1
    · subst e
      rw [List.getElem?_eq_none (by simp), if_pos (show slotO W none = ⟨W, 2, none⟩ from rfl), prev_succ, List.getElem?_append_right (Nat.le_refl _)]
      simp
    · by_cases el : i = ns.length
      · subst el
        rw [List.getElem?_append_right (Nat.le_refl _), prev_snoc (Nat.le_refl _)]
        simp only [Nat.sub_self, List.getElem?_cons_zero]
        have n1 : slotO W (some x) ≠ ⟨W, 2, none⟩ := fun e => hxW (congrArg Addr.block e)
        have n2 : slotO W (some x) ≠ slotN W (prev ns ns.length) := fun e => slotN_ne_slotO W _ _ e.symm
        rw [if_neg n1, if_neg n2, if_pos (show slotO W (some x) = ⟨x, 2, none⟩ from rfl)]
      · have hi' : i < ns.length := by omega
        have hb : ns[i] ∈ ns := List.getElem_mem _
        have n2 : slotO W (some ns[i]) ≠ slotN W (prev ns ns.length) := fun e => slotN_ne_slotO W _ _ e.symm
        have hp := h.prv i (by omega)
        rw [List.getElem?_eq_getElem hi'] at hp
        have n1 : slotO W (some ns[i]) ≠ ⟨W, 2, none⟩ := by simp [slotO]; exact fun e => h.apart (e ▸ hb)
        have n3 : slotO W (some ns[i]) ≠ ⟨x, 2, none⟩ := by simp [slotO]; exact fun e => hx (e ▸ hb)
        rw [getElem?_snoc_lt hi', List.getElem?_eq_getElem hi', if_neg n1, if_neg n2, if_neg n3, prev_snoc (by omega)]
        exact hp
  · unfold appW
    rw [World.frozen?_setCell, World.frozen?_setCell, World.frozen?_setCell]
    rcases hb with hb | hb
    · exact h.frozen b (Or.inl hb) o
    · rcases List.mem_append.1 hb with hb | hb
      · exact h.frozen b (Or.inr hb) o
      · rw [List.mem_singleton] at hb; subst hb; exact fx o

theorem slotN_block {W : Nat} {ns : List Nat} {i : Nat} (hi : i ≤ ns.length) : (slotN W (prev ns i)).block ∈ W :: ns := by
  cases i with
  | zero => exact List.mem_cons_self
  | succ i => rw [prev_succ, List.getElem?_eq_getElem (by omega)]; exact List.mem_cons_of_mem _ (List.getElem_mem _)
theorem slotO_block {W : Nat} {ns : List Nat} {i : Nat} : (slotO W ns[i]?).block ∈ W :: ns := by
  by_cases e : i < ns.length
  · rw [List.getElem?_eq_getElem e]; exact List.mem_cons_of_mem _ (List.getElem_mem _)
  · rw [List.getElem?_eq_none (by omega)]; exact List.mem_cons_self

theorem appW_touch (w : World) (W : Nat) (ns : List Nat) (x : Nat) : Touch w (appW w W ns x) (x :: W :: ns) :=
  (((Touch.refl w _).set (a := ⟨x, 2, none⟩) List.mem_cons_self _).set (List.mem_cons_of_mem _ (slotN_block (Nat.le_refl _))) _).set (a := ⟨W, 2, none⟩) (List.mem_cons_of_mem _ List.mem_cons_self) _

/-! ### unlink -/
/-- The world behind 'unlink(last)', last in block x between p and q. -/
def unlW (w : World) (W : Nat) (p q : Option Nat) (x : Nat) : World :=
  (((w.setCell (slotN W p) (pt q)).setCell (slotO W q) (pt p)).setCell ⟨x, 2, none⟩ (.pointer none)).setCell ⟨x, 3, none⟩ (.pointer none)

theorem unlW_cell {w : World} {W x : Nat} {p q : Option Nat} (c1 : (w.cell? (slotN W p)).isSome = true) (c2 : (w.cell? (slotO W q)).isSome = true) (c3 : (w.cell? ⟨x, 2, none⟩).isSome = true) (c4 : (w.cell? ⟨x, 3, none⟩).isSome = true) (a : Addr) :
    (unlW w W p q x).cell? a = if a = ⟨x, 3, none⟩ then some (.pointer none) else if a = ⟨x, 2, none⟩ then some (.pointer none) else if a = slotO W q then some (pt p) else if a = slotN W p then some (pt q) else w.cell? a := by
  have s1 : ∀ a, (w.cell? a).isSome = true → ((w.setCell (slotN W p) (pt q)).cell? a).isSome = true := fun a ha => by
    rw [cell_set c1]; split
    · rfl
    · exact ha
  have s2 : ∀ a, (w.cell? a).isSome = true → (((w.setCell (slotN W p) (pt q)).setCell (slotO W q) (pt p)).cell? a).isSome = true := fun a ha => by
    rw [cell_set (s1 _ c2)]; split
    · rfl
    · exact s1 a ha
  have s3 : ∀ a, (w.cell? a).isSome = true → ((((w.setCell (slotN W p) (pt q)).setCell (slotO W q) (pt p)).setCell ⟨x, 2, none⟩ (.pointer none)).cell? a).isSome = true := fun a ha => by
    rw [cell_set (s2 _ c3)]; split
    · rfl
    · exact s2 a ha
  unfold unlW
  rw [cell_set (s3 _ c4), cell_set (s2 _ c3), cell_set (s1 _ c2), cell_set c1]

theorem prev_erase {ns : List Nat} {i j : Nat} : prev (ns.eraseIdx i) j = if j ≤ i then prev ns j else prev ns (j + 1) := by
  cases j with
  | zero => simp [prev_zero]
  | succ j =>
    rw [prev_succ, prev_succ, prev_succ, List.getElem?_eraseIdx]
    by_cases e : j < i
    · rw [if_pos e, if_pos (by omega)]
    · rw [if_neg e, if_neg (by omega)]

theorem DL.unlink {w : World} {W : Nat} {ns : List Nat} {x i : Nat} (h : DL w W ns) (hi : ns[i]? = some x) :
    DL (unlW w W (prev ns i) ns[i + 1]? x) W (ns.eraseIdx i) ∧ (unlW w W (prev ns i) ns[i + 1]? x).cell? ⟨x, 2, none⟩ = some (.pointer none) ∧ (unlW w W (prev ns i) ns[i + 1]? x).cell? ⟨x, 3, none⟩ = some (.pointer none) := by
  have hil : i < ns.length := (List.getElem?_eq_some_iff.1 hi).1
  have hO : slotO W ns[i]? = ⟨x, 2, none⟩ := by rw [hi]; rfl
  have hN : slotN W (prev ns (i + 1)) = ⟨x, 3, none⟩ := by rw [prev_succ, hi]; rfl
  have hc := unlW_cell (some_of (h.nxt i (by omega))) (some_of (h.prv (i + 1) (by omega))) (by rw [← hO]; exact some_of (h.prv i (by omega))) (by rw [← hN]; exact some_of (h.nxt (i + 1) (by omega)))
  refine ⟨⟨h.nodup.eraseIdx i, fun hm => h.apart ((List.eraseIdx_sublist ns i).subset hm), fun j hj => ?_, fun j hj => ?_, fun b hb o => ?_⟩, by rw [hc]; simp, by rw [hc]; simp⟩
  · rw [List.length_eraseIdx_of_lt hil] at hj
    rw [hc, ← hO, ← hN]
    by_cases e : j = i
    · have hp : prev (ns.eraseIdx i) j = prev ns i := by rw [prev_erase, if_pos (by omega), e]
      have hg : (ns.eraseIdx i)[j]? = ns[i + 1]? := by rw [List.getElem?_eraseIdx, if_neg (by omega), e]
      rw [hp, hg, if_neg (fun e => by have := slotN_inj h.nodup (by omega) (by omega) e; omega), if_neg (slotN_ne_slotO W _ _), if_neg (slotN_ne_slotO W _ _), if_pos rfl]
    · by_cases e2 : j < i
      · have hp : prev (ns.eraseIdx i) j = prev ns j := by rw [prev_erase, if_pos (by omega)]
        have hg : (ns.eraseIdx i)[j]? = ns[j]? := by rw [List.getElem?_eraseIdx, if_pos e2]
        rw [hp, hg, if_neg (fun e => by have := slotN_inj h.nodup (by omega) (by omega) e; omega), if_neg (slotN_ne_slotO W _ _), if_neg (slotN_ne_slotO W _ _), if_neg (fun e => by have := slotN_inj h.nodup (by omega) (by omega) e; omega)]
        exact h.nxt j (by omega)
      · have hp : prev (ns.eraseIdx i) j = prev ns (j + 1) := by rw [prev_erase, if_neg (by omega)]
        have hg : (ns.eraseIdx i)[j]? = ns[j + 1]? := by rw [List.getElem?_eraseIdx, if_neg e2]
        rw [hp, hg, if_neg (fun e => by have := slotN_inj h.nodup (by omega) (by omega) e; omega), if_neg (slotN_ne_slotO W _ _), if_neg (slotN_ne_slotO W _ _), if_neg (fun e => by have := slotN_inj h.nodup (by omega) (by omega) e; omega)]
        exact h.nxt (j + 1) (by omega)
  · rw [List.length_eraseIdx_of_lt hil] at hj
    rw [hc, ← hO, ← hN]
    have nN : ∀ a b, slotO W a ≠ slotN W b := fun a b e => slotN_ne_slotO W _ _ e.symm
    by_cases e : j = i
    · have hp : prev (ns.eraseIdx i) j = prev ns i := by rw [prev_erase, if_pos (by omega), e]
      have hg : (ns.eraseIdx i)[j]? = ns[i + 1]? := by rw [List.getElem?_eraseIdx, if_neg (by omega), e]
      rw [hp, hg, if_neg (nN _ _), if_neg (fun e => by have := slotO_inj h.nodup h.apart (by omega) (by omega) e; omega), if_pos rfl]
    · by_cases e2 : j < i
      · have hp : prev (ns.eraseIdx i) j = prev ns j := by rw [prev_erase, if_pos (by omega)]
        have hg : (ns.eraseIdx i)[j]? = ns[j]? := by rw [List.getElem?_eraseIdx, if_pos e2]
        rw [hp, hg, if_neg (nN _ _), if_neg (fun e => by have := slotO_inj h.nodup h.apart (by omega) (by omega) e; omega), if_neg (fun e => by have := slotO_inj h.nodup h.apart (by omega) (by omega) e; omega), if_neg (nN _ _)]
        exact h.prv j (by omega)
      · have hp : prev (ns.eraseIdx i) j = prev ns (j + 1) := by rw [prev_erase, if_neg (by omega)]
        have hg : (ns.eraseIdx i)[j]? = ns[j + 1]? := by rw [List.getElem?_eraseIdx, if_neg e2]
        rw [hp, hg, if_neg (nN _ _), if_neg (fun e => by have := slotO_inj h.nodup h.apart (by omega) (by omega) e; omega), if_neg (fun e => by have := slotO_inj h.nodup h.apart (by omega) (by omega) e; omega), if_neg (nN _ _)]
        exact h.prv (j + 1) (by omega)
  · unfold unlW
    rw [World.frozen?_setCell, World.frozen?_setCell, World.frozen?_setCell, World.frozen?_setCell]
    rcases hb with hb | hb
    · exact h.frozen b (Or.inl hb) o
    · exact h.frozen b (Or.inr ((List.eraseIdx_sublist ns i).subset hb)) o

theorem unlW_touch {w : World} {W : Nat} {ns : List Nat} {x i : Nat} (hi : ns[i]? = some x) : Touch w (unlW w W (prev ns i) ns[i + 1]? x) (W :: ns) := by
  have hil : i < ns.length := (List.getElem?_eq_some_iff.1 hi).1
  have hx : x ∈ W :: ns := List.mem_cons_of_mem _ (List.mem_of_getElem? hi)
  exact ((((Touch.refl w _).set (slotN_block (by omega)) _).set slotO_block _).set (a := ⟨x, 2, none⟩) hx _).set (a := ⟨x, 3, none⟩) hx _

end Go.Proofs.Qxb6617097a
