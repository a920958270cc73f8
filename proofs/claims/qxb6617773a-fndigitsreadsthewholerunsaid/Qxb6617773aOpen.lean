/-
  THE SEAT's SHARED STEPS FROM A ROW's READING TO THE WALKS: a slice of strings among the arguments, opened.
-/
import Derived.Test.Qxb6617773aBytes
import Derived.OpenShut
import Derived.ShutString
import Derived.ChangeOld
import Derived.Carry
import Derived.SliceStrings
namespace Go.Proofs.Qxb6617773a
open Go.ChangeShapes Go.WideShapes Go.ChangeAt Go.RowKit

theorem own : ownKnob Try.prog.godebug = none := by kernel_rfl
theorem laidOut : laidOutB Try.prog = true := by kernel_rfl
theorem cells9 : Try.prog.cellsOf 9 = 1 := by kernel_rfl

theorem open_keys {H : Type} {enc : TypeId × Value → H} {W : World} {spare : Nat → Bool} {held : Bool} {a : Option Addr} {len cap : Nat} {d : DataW H} {p : List MemPlace}
    (h : DataW.Trod enc Try.prog W 0 spare held 22 (.slice a len cap) d p) :
    ∃ ss : List ByteArray, len ≤ maxLen ∧ (∀ i, i < len → (ss.getD i ByteArray.empty).size ≤ maxLen) ∧ IsStrs W a len ss := by
  obtain ⟨fuel, hf⟩ := h
  rcases open_strings Try.underlying22 Try.underlying9 cells9 hf with ⟨hcs, _⟩ | ⟨x, l, c, ss, hcs, _, hl, hm, hz, _, hcell, hws⟩
  · simp [Value.cells] at hcs
    obtain ⟨rfl, rfl, rfl⟩ := hcs
    exact ⟨[], Nat.zero_le _, fun i hi => by omega, fun i hi => by omega⟩
  · simp [Value.cells] at hcs
    obtain ⟨rfl, rfl, rfl⟩ := hcs
    have hlz : len ≤ ss.length := by rw [hz]; split <;> omega
    refine ⟨ss, by omega, fun i hi => ?_, fun i hi => ?_⟩
    · have hi' : i < ss.length := by omega
      rw [List.getD_eq_getElem?_getD, List.getElem?_eq_getElem hi', Option.getD_some]
      exact hws _ (List.getElem_mem hi')
    · have hci := hcell i (by omega)
      obtain ⟨b, off, spot⟩ := x
      have hspot : spot = none := by simpa [Addr.add] using World.cell?_spot (hcell 0 (by omega))
      subst hspot
      rw [Go.WideShapes.add_plain] at hci
      refine ⟨b, off, rfl, ?_, hci⟩
      unfold World.cell? at hci
      by_cases hb : b < W.heap.size
      · exact hb
      · rw [Array.getElem?_eq_none (show W.heap.size ≤ b by omega)] at hci
        cases hci

end Go.Proofs.Qxb6617773a
