/-
  'zzc := make([]string, len(keys)); copy(zzc, keys)': the law of that copy, at this program's numbers.
-/
import Derived.Test.Qxb6617773aBytes
import Derived.WalkSpells
import Derived.WalkLawsBesides
import Derived.Deep.OwnRows
import Derived.Laws.CopyOwn
namespace Go.Proofs.Qxb6617773a
open Go.ChangeShapes Go.WideShapes Go.ChangeAt Go.RowKit

theorem info9 : (Try.prog.info? 9).map (fun i => (i.zero, i.size, i.bytes)) = some (some (.string ByteArray.empty), 1, 16) := by kernel_rfl
theorem size9 : (Try.prog.info? 9).map (·.size) = some 1 := by kernel_rfl

/-- The cells that hold the strings. -/
def strCells (ss : List ByteArray) (len : Nat) : List Value := (List.range len).map fun i => .string (ss.getD i ByteArray.empty)
theorem length_strCells (ss : List ByteArray) (len : Nat) : (strCells ss len).length = len := by simp [strCells]
theorem strCells_at (ss : List ByteArray) (len i : Nat) (h : i < len) : (strCells ss len)[i]? = some (.string (ss.getD i ByteArray.empty)) := by simp [strCells, h]

theorem made_row (z : Value) (n : Nat) : madeCells #[z] n = (List.replicate n z).toArray := by
  apply Array.toList_inj.1
  rw [toList_madeCells_one]

theorem splice_all (L cs : List Value) (h : L.length = cs.length) : splice L 0 cs = cs := by
  unfold splice
  rw [List.take_zero, Nat.zero_add, ← h, List.drop_length]
  simp

theorem strs_of_row {w : World} {g len : Nat} {ss : List ByteArray} {t : TypeId} (h : w.heap[g]? = some (.cells (strCells ss len).toArray t (0, 0))) : IsStrs w (some ⟨g, 0, none⟩) len ss := by
  intro i hi
  refine ⟨g, 0, rfl, (Array.getElem?_eq_some_iff.1 h).1, ?_⟩
  unfold World.cell?
  simp only [h, Nat.zero_add]
  simpa using strCells_at ss len i hi

/-- Where nothing below has turned the strings are still there. -/
theorem IsStrs.later {w w' : World} {ka : Option Addr} {len : Nat} {ss : List ByteArray} (h : IsStrs w ka len ss) (hb : Below w.heap.size w w') : IsStrs w' ka len ss := by
  intro i hi
  obtain ⟨b, off, e, hlt, hc⟩ := h i hi
  exact ⟨b, off, e, Nat.lt_of_lt_of_le hlt hb.size, by rw [hb.cell (p := ⟨b, off + i, none⟩) hlt]; exact hc⟩

/-- The row that 'make' has laid. -/
theorem made_block (w : World) (len : Nat) : (w.alloc (.cells (madeCells #[.string ByteArray.empty] len) 9)).heap[w.heap.size]? = some (.cells (List.replicate len (Value.string ByteArray.empty)).toArray 9 (0, 0)) := by
  rw [made_row]; exact Deep.blk_alloc_new _ _

theorem made_below (w : World) (o : Obj) : Below w.heap.size w (w.alloc o) := (Below.refl _ _).alloc (Nat.le_refl _) _

theorem copy_len (ss : List ByteArray) (len : Nat) : (strCells ss len).length = Nat.min len len := by
  rw [length_strCells]; exact (Nat.min_self len).symm

theorem copy_fit (ss : List ByteArray) (len : Nat) : 0 + (strCells ss len).length ≤ (List.replicate len (Value.string ByteArray.empty)).length := by
  rw [length_strCells]; simp

theorem copy_one (ss : List ByteArray) (len : Nat) : ∀ v ∈ strCells ss len, v.oneCell' = true := by
  intro v hv
  simp [strCells] at hv
  obtain ⟨i, _, rfl⟩ := hv
  rfl

/-- What goes over lies in the source. -/
theorem copy_src {w : World} {ka : Option Addr} {len : Nat} {ss : List ByteArray} (hc : Hid (IsStrs w ka len ss)) (o : Obj) :
    0 < (strCells ss len).length → (some ⟨w.heap.size, 0, none⟩ : Option Addr) = some ⟨w.heap.size, 0, none⟩ ∧ ∃ ad, ka = some ad ∧ ∀ j v, (strCells ss len)[j]? = some v → (w.alloc o).cell? (ad.add j) = some v := by
  have hl := length_strCells ss len
  have hlater := IsStrs.later hc.out (made_below w o)
  intro h0
  rw [hl] at h0
  obtain ⟨b, off, e, _, _⟩ := hlater 0 h0
  refine ⟨rfl, ⟨b, off, none⟩, e, fun j v hj => ?_⟩
  have hjl : j < len := by have := (List.getElem?_eq_some_iff.1 hj).1; omega
  rw [strCells_at ss len j hjl] at hj
  obtain ⟨b', off', e', _, hcell⟩ := hlater j hjl
  rw [e] at e'
  injection e' with e'
  injection e' with e1 e2
  subst e1; subst e2
  rw [← hj]
  have ea : (⟨b, off, none⟩ : Addr).add j = ⟨b, off + j, none⟩ := by unfold Addr.add; split <;> simp_all
  rw [ea]; exact hcell

/-- The row behind the copy. -/
theorem strs_of_splice {w : World} {g len : Nat} {ss : List ByteArray} (h : Hid (w.heap[g]? = some (.cells (splice (List.replicate len (Value.string ByteArray.empty)) 0 (strCells ss len)).toArray 9 (0, 0)))) :
    Hid (IsStrs w (some ⟨g, 0, none⟩) len ss) := by
  have := h.out
  rw [splice_all _ _ (by rw [length_strCells]; simp)] at this
  exact strs_of_row this

end Go.Proofs.Qxb6617773a
