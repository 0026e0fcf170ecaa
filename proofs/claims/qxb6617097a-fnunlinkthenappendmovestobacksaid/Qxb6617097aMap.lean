/-
  Seat b6617097a: THE MAP OF LAST WRITES, told as a plain function from a key's bytes to the node's block. By 'World.ownsMap' over a reader of our own for pointers.
-/
import Derived.Test.Qxb6617097aRead
import Derived.Maps.OwnSet
namespace Go.Proofs.Qxb6617097a
open Go.RowKit Go.Maps

/-- How a pointer to a node reads: its block's number. -/
def ptrElem : Value → Option (DataW Unit × List MemPlace)
  | .pointer none => some (.nil, [])
  | .pointer (some ⟨b, 0, none⟩) => some (.lit (.int .i64 b), [])
  | _ => none

/-- The pointer to the head of block b, or nil. -/
def pt : Option Nat → Value
  | some b => .pointer (some ⟨b, 0, none⟩)
  | none => .pointer none
theorem pt_some (b : Nat) : pt (some b) = .pointer (some ⟨b, 0, none⟩) := rfl
theorem pt_none : pt none = .pointer none := rfl

def enc1 : Option Nat → DataW Unit
  | some b => .lit (.int .i64 b)
  | none => .nil

theorem ptrElem_pt (o : Option Nat) : ptrElem (pt o) = some (enc1 o, []) := by cases o <;> rfl

theorem ptrElem_inv {v : Value} {o : Option Nat} {ps : List MemPlace} (h : ptrElem v = some (enc1 o, ps)) : v = pt o := by
  unfold ptrElem at h
  split at h
  · cases o <;> simp [enc1] at h ⊢
    rfl
  · cases o with
    | none => simp [enc1] at h
    | some b =>
      simp [enc1] at h
      obtain ⟨h1, _⟩ := h
      rw [pt_some]
      congr
      omega
  · cases h

theorem law9 : Keyed Try.prog 9 := string_keyed Try.underlying9
theorem zero33 (w : World) : (zeroValue 33).run Try.prog w = .ok (.pointer none) w := by kernel_rfl

/-- BLOCK B IS A MAP OF AT MOST n ENTRIES: at a key of the bytes s lies the pointer to block f s. -/
def Mp (w : World) (B n : Nat) (f : List UInt8 → Option Nat) : Prop :=
  ∃ D : DataW Unit, w.ownsMap Try.prog 9 ptrElem B n D ∧ ∀ s, Maps.has D (.string s) = (f s).isSome ∧ D.atKey (.string s) .nil = enc1 (f s)

theorem Mp_made (w : World) : Mp (w.alloc (.map #[] 0)) w.heap.size 0 (fun _ => none) :=
  ⟨_, World.ownsMap_made w Try.prog 9 ptrElem, fun _ => ⟨rfl, rfl⟩⟩

theorem Mp.kept {w w' : World} {B n : Nat} {f : List UInt8 → Option Nat} {row : Option Nat} (h : Mp w B n f) (hg : w.grownBy w' row) (hne : some B ≠ row) : Mp w' B n f := by
  obtain ⟨D, h1, h2⟩ := h
  exact ⟨D, h1.kept hg hne, h2⟩

theorem Mp.alloc {w : World} {B n : Nat} {f : List UInt8 → Option Nat} (h : Mp w B n f) (o : Obj) : Mp (w.alloc o) B n f := by
  obtain ⟨D, h1, h2⟩ := h
  exact ⟨D, h1.alloc o, h2⟩

theorem Mp.drew {w : World} {B n : Nat} {f : List UInt8 → Option Nat} (h : Mp w B n f) : Mp w.drew B n f := h

theorem Mp.lt {w : World} {B n : Nat} {f : List UInt8 → Option Nat} (h : Mp w B n f) : B < w.heap.size := by
  obtain ⟨D, h1, h2⟩ := h
  exact h1.lt

theorem Mp.look {w : World} {B n : Nat} {f : List UInt8 → Option Nat} (h : Mp w B n f) {s : ByteArray} (hs : s.size ≤ maxLen) :
    (Instr.lookup 49 (.map (some B)) (.string s) true).run Try.prog w = .ok (.tuple #[pt (f s.data.toList), .bool (f s.data.toList).isSome]) w := by
  obtain ⟨D, h1, h2⟩ := h
  obtain ⟨e1, e2⟩ := h2 s.data.toList
  obtain ⟨v, ps, hrun, hv⟩ := h1.look_ok law9 Try.underlying49 (zero33 w) (ptrElem_pt none) (WideMaps.keyOf_string_mk Try.underlying9 hs)
  have e3 : D.atKey (.string s.data.toList) (enc1 none) = enc1 (f s.data.toList) := e2
  rw [e3] at hv
  rw [hrun, ptrElem_inv hv, e1]

/-- f, but s leads to b. -/
def upd (f : List UInt8 → Option Nat) (s : List UInt8) (b : Nat) : List UInt8 → Option Nat := fun t => if t = s then some b else f t
theorem upd_same {f : List UInt8 → Option Nat} {s : List UInt8} {b : Nat} : upd f s b s = some b := by simp [upd]
theorem upd_other {f : List UInt8 → Option Nat} {s t : List UInt8} {b : Nat} (h : ¬ t = s) : upd f s b t = f t := by simp [upd, h]

theorem Mp.store {w : World} {B n : Nat} {f : List UInt8 → Option Nat} (h : Mp w B n f) (hn : n < maxLen) {s : ByteArray} (hs : s.size ≤ maxLen) (b : Nat) :
    ∃ w', (Instr.mapUpdate 49 (.map (some B)) (.string s) (.pointer (some ⟨b, 0, none⟩))).run Try.prog w = .ok () w' ∧ Mp w' B (n + 1) (upd f s.data.toList b) ∧ w.grownBy w' (some B) ∧ w'.heap.size = w.heap.size ∧ (∀ a, w'.frozen? a = w.frozen? a) := by
  obtain ⟨D, h1, h2⟩ := h
  have hkey := WideMaps.keyOf_string_mk Try.underlying9 hs
  obtain ⟨w', hrun, hown, hturn⟩ := h1.store law9 Try.underlying49 hn hkey (ptrElem_pt (some b))
  refine ⟨w', hrun, ⟨_, hown, fun t => ?_⟩, hturn.grown, ?_, hturn.frozen⟩
  · by_cases ht : t = s.data.toList
    · subst ht
      rw [upd_same]
      exact ⟨Maps.has_put_same h1.isMap (law9.key hkey) _, Maps.atKey_put_same h1.isMap (law9.key hkey) _ _⟩
    · rw [upd_other ht]
      have hne : (Lit.string t) ≠ .string s.data.toList := fun e => ht (by injection e)
      rw [Maps.has_put_other hne, Maps.atKey_put_other hne]
      exact h2 t
  · obtain ⟨es, clock, es', clock', hb, rfl⟩ := hturn
    simp [ChangeMaps.setBlock]

end Go.Proofs.Qxb6617097a
