import Derived.Test.Qxb6605371aClone
import Derived.ShutString
import Derived.ChangeOld
import Derived.SliceStrings
namespace Go.Proofs.Qxb6605371a
open Go.ChangeShapes Go.WideShapes Go.ChangeAt Go.RowKit

theorem own : ownKnob Try.prog.godebug = none := by kernel_rfl
theorem laidOut : laidOutB Try.prog = true := by kernel_rfl
theorem Try.cells9 : Try.prog.cellsOf 9 = 1 := by kernel_rfl

/-- WHAT A SLICE OF STRINGS THAT CAME IN HOLDS. -/
theorem open_strs {H : Type} {enc : TypeId × Value → H} {W : World} {a : Option Addr} {len cap : Nat} {d : DataW H} {p : List MemPlace}
    (h : DataW.Trod enc Try.prog W 0 (fun _ => true) true 22 (Value.slice a len cap) d p) :
    ∃ ss : List ByteArray, Strs W (.slice a len cap) ss ∧ (a = none → cap = 0) ∧ len = ss.length ∧ len ≤ maxLen ∧ ∀ i, (at' ss i).size ≤ maxLen := by
  obtain ⟨fuel, hf⟩ := h
  rcases open_strings Try.underlying22 Try.underlying9 Try.cells9 hf with ⟨hcs, _⟩ | ⟨x, l, c, ss, hcs, _, hl, hm, hz, _, hcell, hwz⟩
  · simp [Value.cells] at hcs
    obtain ⟨rfl, rfl, rfl⟩ := hcs
    exact ⟨[], ⟨none, 0, rfl, fun h => by simp at h⟩, fun _ => rfl, rfl, Nat.zero_le _, fun i => by simp [at']⟩
  · simp [Value.cells] at hcs
    obtain ⟨rfl, rfl, rfl⟩ := hcs
    simp only [if_true] at hz
    have hlen : (ss.take len).length = len := by simp; omega
    refine ⟨ss.take len, ⟨some x, cap, by rw [hlen], fun h0 => ?_⟩, fun h => (by cases h), hlen.symm, Nat.le_trans hl hm, fun i => ?_⟩
    · obtain ⟨b, off, spot⟩ := x
      have hspot : spot = none := by simpa [Addr.add] using World.cell?_spot (hcell 0 (by omega))
      subst hspot
      refine ⟨b, off, rfl, fun i hi => ?_⟩
      rw [hlen] at hi
      rw [← Addr.add_lit, hcell i (by omega)]
      simp [at', hi]
    · unfold at'
      by_cases hi : i < (ss.take len).length
      · rw [List.getD_eq_getElem?_getD, List.getElem?_eq_getElem hi]
        exact hwz _ (List.mem_of_mem_take (List.getElem_mem hi))
      · rw [List.getD_eq_getElem?_getD, List.getElem?_eq_none (by omega)]
        exact Nat.zero_le _
end Go.Proofs.Qxb6605371a
