/-
  THE PLAIN LAW of the seat: no Go in sight. When a text ends in another; what a declaration ends in.
-/
namespace Go.Proofs.Qxb6617795a

/-- The byte at place i; 0 past the end. -/
def byteAt (s : ByteArray) (i : Nat) : UInt8 := s.data.getD i 0

theorem byteAt_lt (s : ByteArray) (i : Nat) (h : i < s.size) : byteAt s i = s[i] := by
  unfold byteAt Array.getD
  have h' : i < s.data.size := h
  rw [dif_pos h']
  rfl

/-- s ends in suf. -/
structure Ends (s suf : ByteArray) : Prop where
  fits : suf.size ≤ s.size
  same : ∀ i, i < suf.size → byteAt s (s.size - suf.size + i) = byteAt suf i

theorem byteAt_left (a b : ByteArray) (i : Nat) (h : i < a.size) : byteAt (a ++ b) i = byteAt a i := by
  rw [byteAt_lt _ _ (by rw [ByteArray.size_append]; omega), byteAt_lt _ _ h, ByteArray.getElem_append_left h]

theorem byteAt_right (a b : ByteArray) (i : Nat) (h : i < b.size) : byteAt (a ++ b) (a.size + i) = byteAt b i := by
  rw [byteAt_lt _ _ (by rw [ByteArray.size_append]; omega), byteAt_lt _ _ h, ByteArray.getElem_append_right (by omega)]
  simp

theorem ends_append (a b : ByteArray) : Ends (a ++ b) b :=
  ⟨by rw [ByteArray.size_append]; omega, fun i hi => by
    rw [ByteArray.size_append, show a.size + b.size - b.size + i = a.size + i by omega]
    exact byteAt_right a b i hi⟩

def sNot : ByteArray := ⟨#[32, 78, 79, 84]⟩
def sNull : ByteArray := ⟨#[32, 78, 85, 76, 76]⟩
def sNotNull : ByteArray := ⟨#[32, 78, 79, 84, 32, 78, 85, 76, 76]⟩

/-- The declaration of a type. -/
def declOf (t : ByteArray) (nl : Bool) : ByteArray := t ++ (if nl then sNull else sNotNull)

/-- 'T NULL' ends in ' NOT NULL' only where T ends in ' NOT'. -/
theorem ends_not {t : ByteArray} (h : Ends (t ++ sNull) sNotNull) : Ends t sNot := by
  have hf := h.fits
  rw [ByteArray.size_append] at hf
  have e1 : sNotNull.size = 9 := rfl
  have e2 : sNull.size = 5 := rfl
  have e3 : sNot.size = 4 := rfl
  refine ⟨by omega, fun i hi => ?_⟩
  have hs := h.same i (by omega)
  rw [ByteArray.size_append, show t.size + sNull.size - sNotNull.size + i = t.size - sNot.size + i by omega, byteAt_left _ _ _ (by omega)] at hs
  rw [hs]
  have hi4 : i < 4 := by omega
  match i, hi4 with
  | 0, _ => rfl
  | 1, _ => rfl
  | 2, _ => rfl
  | 3, _ => rfl

theorem extract_append_left (a b : ByteArray) : (a ++ b).extract 0 a.size = a := by
  apply ByteArray.ext
  simp [ByteArray.data_extract, ByteArray.data_append]

/-- What is left of a declaration where its ending is taken off. -/
theorem cut_append (a b : ByteArray) (n : Nat) (h : b.size = n) : (a ++ b).extract 0 ((a ++ b).size - n) = a := by
  rw [ByteArray.size_append, show a.size + b.size - n = a.size by omega]
  exact extract_append_left a b

theorem size_declOf (t : ByteArray) (nl : Bool) (h : t.size ≤ 65536) : (declOf t nl).size ≤ 70000 := by
  unfold declOf
  have e1 : sNotNull.size = 9 := rfl
  have e2 : sNull.size = 5 := rfl
  cases nl <;> simp [ByteArray.size_append] <;> omega

end Go.Proofs.Qxb6617795a
