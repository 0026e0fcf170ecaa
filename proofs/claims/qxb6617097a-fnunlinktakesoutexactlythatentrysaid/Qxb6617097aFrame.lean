/-
  Seat b6617097a: what the rows' steps share: a slice of strings, of uint64s, opened as the walks are told it.
-/
import Derived.Test.Qxb6617097aMapW
import Derived.ProofKit
import Derived.OpenShut
import Derived.ShutString
import Derived.ChangeOld
import Derived.SliceStrings
namespace Go.Proofs.Qxb6617097a
open Go.ChangeShapes Go.WideShapes Go.ChangeAt Go.RowKit

theorem own : ownKnob Try.prog.godebug = none := by kernel_rfl
theorem laidOut : laidOutB Try.prog = true := by kernel_rfl
theorem cells9 : Try.prog.cellsOf 9 = 1 := by kernel_rfl
theorem cells24 : Try.prog.cellsOf 24 = 1 := by kernel_rfl

theorem strs_open {H : Type} {enc : TypeId × Value → H} {W : World} {fuel : Nat} {a : Option Addr} {n c : Nat} {x : DataW H × List MemPlace}
    (h : DataW.trod enc Try.prog W 0 (fun _ => true) true fuel 22 [.slice a n c] = some x) : ∃ S, Strs W a n S ∧ (a = none → n = 0 ∧ c = 0) := by
  rcases open_strings Try.underlying22 Try.underlying9 cells9 h with ⟨hcs, _⟩ | ⟨ad, l, cp, ss, hcs, _, hl, hm, hz, _, hcell, hws⟩
  · simp at hcs
    obtain ⟨rfl, rfl, rfl⟩ := hcs
    exact ⟨fun _ => ByteArray.empty, ⟨Nat.zero_le _, fun i hi => absurd hi (Nat.not_lt_zero i), Or.inl rfl⟩, fun _ => ⟨rfl, rfl⟩⟩
  · simp at hcs
    obtain ⟨rfl, rfl, rfl⟩ := hcs
    simp at hz
    refine ⟨fun i => ss.getD i ByteArray.empty, ⟨Nat.le_trans hl hm, fun i hi => ?_, ?_⟩, fun h => by cases h⟩
    · have hi' : i < ss.length := by omega
      have : ss.getD i ByteArray.empty = ss[i] := by simp [List.getD, hi']
      show (ss.getD i ByteArray.empty).size ≤ maxLen
      rw [this]
      exact hws _ (List.getElem_mem hi')
    · by_cases h0 : n = 0
      · exact Or.inl h0
      · right
        obtain ⟨b, off, spot⟩ := ad
        have hspot : spot = none := by simpa [Addr.add] using World.cell?_spot (hcell 0 (by omega))
        subst hspot
        refine ⟨b, off, rfl, ?_, fun i hi => ?_⟩
        · have := World.block_lt_of_cell? _ _ (hcell 0 (by omega))
          simpa [Addr.add] using this
        · rw [← add_plain]
          exact hcell i (by omega)

theorem u64s_open {H : Type} {enc : TypeId × Value → H} {W : World} {fuel : Nat} {a : Option Addr} {n c : Nat} {x : DataW H × List MemPlace}
    (h : DataW.trod enc Try.prog W 0 (fun _ => true) true fuel 23 [.slice a n c] = some x) : ∃ V, U64s W a n V := by
  rcases open_ints Try.underlying23 Try.underlying24 cells24 h with ⟨hcs, _⟩ | ⟨ad, l, cp, zs, hcs, _, hl, hm, hz, _, hcell, hwz⟩
  · simp at hcs
    obtain ⟨rfl, rfl, rfl⟩ := hcs
    exact ⟨fun _ => 0, Nat.zero_le _, Or.inl rfl⟩
  · simp at hcs
    obtain ⟨rfl, rfl, rfl⟩ := hcs
    simp at hz
    refine ⟨fun i => zs.getD i 0, Nat.le_trans hl hm, ?_⟩
    by_cases h0 : n = 0
    · exact Or.inl h0
    · right
      obtain ⟨b, off, spot⟩ := ad
      have hspot : spot = none := by simpa [Addr.add] using World.cell?_spot (hcell 0 (by omega))
      subst hspot
      refine ⟨b, off, rfl, ?_, fun i hi => ?_⟩
      · have := World.block_lt_of_cell? _ _ (hcell 0 (by omega))
        simpa [Addr.add] using this
      · rw [← add_plain]
        exact hcell i (by omega)

end Go.Proofs.Qxb6617097a
