/-
  THE PLAIN LAW of the seat: no Go in sight. Where a run of bytes ends; that it ends at one place alone; that a cut, and a start from inside the run, find the same end.
-/
namespace Go.Proofs.Qxb6617773a

/-- The byte at place i; 0 past the end. -/
def byteAt (s : ByteArray) (i : Nat) : UInt8 := s.data.getD i 0

def blankB (c : UInt8) : Bool := c == 32 || c == 9 || c == 10 || c == 13
def digitB (c : UInt8) : Bool := decide (48 ≤ c) && decide (c ≤ 57)

/-- q is where the run of 'f'-bytes that begins at 'pos' ends. -/
structure IsStop (f : UInt8 → Bool) (s : ByteArray) (pos q : Nat) : Prop where
  lo : pos ≤ q
  hi : q ≤ s.size
  run : ∀ i, pos ≤ i → i < q → f (byteAt s i) = true
  stop : q < s.size → f (byteAt s q) = false

theorem byteAt_lt (s : ByteArray) (i : Nat) (h : i < s.size) : byteAt s i = s[i] := by
  unfold byteAt Array.getD
  have h' : i < s.data.size := h
  rw [dif_pos h']
  rfl

theorem byteAt_ge (s : ByteArray) (i : Nat) (h : s.size ≤ i) : byteAt s i = 0 := by
  unfold byteAt Array.getD
  have h' : ¬ i < s.data.size := by have : s.data.size = s.size := rfl; omega
  rw [dif_neg h']

/-- There is one end alone. -/
theorem IsStop.same {f : UInt8 → Bool} {s : ByteArray} {pos p q : Nat} (hp : IsStop f s pos p) (hq : IsStop f s pos q) : p = q := by
  rcases Nat.lt_trichotomy p q with h | h | h
  · have a := hq.run p hp.lo h
    have b := hp.stop (by have := hq.hi; omega)
    rw [a] at b; cases b
  · exact h
  · have a := hp.run q hq.lo h
    have b := hq.stop (by have := hp.hi; omega)
    rw [a] at b; cases b

/-- From inside the run: the same end. -/
theorem IsStop.inside {f : UInt8 → Bool} {s : ByteArray} {pos p k : Nat} (hp : IsStop f s pos p) (h1 : pos ≤ k) (h2 : k ≤ p) : IsStop f s k p :=
  ⟨h2, hp.hi, fun i a b => hp.run i (by omega) b, hp.stop⟩

theorem IsStop.again {f : UInt8 → Bool} {s : ByteArray} {pos p : Nat} (hp : IsStop f s pos p) : IsStop f s p p := hp.inside hp.lo (Nat.le_refl _)

theorem size_cut (s : ByteArray) (k : Nat) (h : k ≤ s.size) : (s.extract 0 k).size = k := by
  rw [ByteArray.size_extract]; omega

theorem byteAt_cut (s : ByteArray) (k i : Nat) (h : k ≤ s.size) (hi : i < k) : byteAt (s.extract 0 k) i = byteAt s i := by
  rw [byteAt_lt _ _ (by rw [size_cut s k h]; exact hi), byteAt_lt _ _ (by omega), ByteArray.getElem_extract]
  simp

/-- The text cut at k, k at or before the end of the run: the run goes on to the cut. -/
theorem IsStop.cut_in {f : UInt8 → Bool} {s : ByteArray} {pos p k q : Nat} (hp : IsStop f s pos p) (h1 : pos ≤ k) (h2 : k ≤ p) (hq : IsStop f (s.extract 0 k) pos q) : q = k := by
  have hk : k ≤ s.size := by have := hp.hi; omega
  refine hq.same ⟨h1, by rw [size_cut s k hk]; exact Nat.le_refl _, fun i a b => ?_, fun h => ?_⟩
  · rw [byteAt_cut s k i hk b]; exact hp.run i a (by omega)
  · rw [size_cut s k hk] at h; omega

/-- The text cut at k, k past the end of the run: the same end. -/
theorem IsStop.cut_out {f : UInt8 → Bool} {s : ByteArray} {pos p k q : Nat} (hp : IsStop f s pos p) (h1 : p < k) (h2 : k ≤ s.size) (hq : IsStop f (s.extract 0 k) pos q) : q = p := by
  refine hq.same ⟨hp.lo, by rw [size_cut s k h2]; omega, fun i a b => ?_, fun _ => ?_⟩
  · rw [byteAt_cut s k i h2 (by omega)]; exact hp.run i a b
  · rw [byteAt_cut s k p h2 h1]; exact hp.stop (by omega)

end Go.Proofs.Qxb6617773a
