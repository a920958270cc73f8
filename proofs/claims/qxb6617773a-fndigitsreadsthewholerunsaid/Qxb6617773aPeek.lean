/-
  THE WALKS OF '(*decoder).peek' (16) AND 'ZZPeek' (8).
-/
import Derived.Test.Qxb6617773aRows
import Derived.Test.Qxb6617773aPlain
import Derived.WalkKit
import Derived.ProofKit
import Derived.Below
import Derived.WalkSmall
import Derived.Deep.QuietTactic
import Derived.Deep.LoopGhost
import Derived.BigQuiet
namespace Go.Proofs.Qxb6617773a
open Go.ChangeShapes Go.WideShapes Go.ChangeAt Go.RowKit

/-- Block b is a decoder that reads s and stands at q; else it, and all below it, is as in w. -/
structure DecAt (b : Nat) (s : ByteArray) (w : World) (q : Nat) (wr : World) : Prop where
  text : wr.cell? ⟨b, 0, none⟩ = some (.string s)
  pos : wr.cell? ⟨b, 1, none⟩ = some (.int .i64 q)
  soft : wr.frozen? ⟨b, 1, none⟩ = false
  rest : ∀ o, o ≠ 1 → wr.cell? ⟨b, o, none⟩ = w.cell? ⟨b, o, none⟩
  below : Below b w wr

theorem DecAt.step {b : Nat} {s : ByteArray} {w : World} {q : Nat} {wr : World} (h : DecAt b s w q wr) (n : Nat) :
    DecAt b s w (q + 1) ((wr.drewN n).setCell ⟨b, 1, none⟩ (.int .i64 ((q : Int) + 1))) where
  text := by rw [World.cell?_setCell_other _ _ _ _ (by simp), World.cell?_drewN]; exact h.text
  pos := by rw [World.cell?_setCell_same _ _ _ (u := .int .i64 q) (by rw [World.cell?_drewN]; exact h.pos)]; simp
  soft := by rw [World.frozen?_setCell, World.frozen?_drewN]; exact h.soft
  rest := fun o ho => by rw [World.cell?_setCell_other _ _ _ _ (by intro e; injection e with _ e2; omega), World.cell?_drewN]; exact h.rest o ho
  below := (below_drewN h.below n).setCell (Nat.le_refl _) _

theorem DecAt.drewN {b : Nat} {s : ByteArray} {w : World} {q : Nat} {wr : World} (h : DecAt b s w q wr) (n : Nat) : DecAt b s w q (wr.drewN n) :=
  ⟨h.text, h.pos, h.soft, h.rest, below_drewN h.below n⟩

/-- The run so far. -/
def RunTo (f : UInt8 → Bool) (s : ByteArray) (pos q : Nat) : Prop := ∀ i, pos ≤ i → i < q → f (byteAt s i) = true

theorem RunTo.step {f : UInt8 → Bool} {s : ByteArray} {pos q : Nat} (h : RunTo f s pos q) (hq : q < s.size) (hc : f s[q] = true) : RunTo f s pos (q + 1) := by
  intro i h1 h2
  by_cases e : i = q
  · subst e; rw [byteAt_lt s i hq]; exact hc
  · exact h i h1 (by omega)

theorem RunTo.stop {f : UInt8 → Bool} {s : ByteArray} {pos q : Nat} (h : RunTo f s pos q) (h1 : pos ≤ q) (hq : q < s.size) (hc : f s[q] = false) : IsStop f s pos q :=
  ⟨h1, by omega, h, fun _ => by rw [byteAt_lt s q hq]; exact hc⟩

theorem RunTo.done {f : UInt8 → Bool} {s : ByteArray} {pos q : Nat} (h : RunTo f s pos q) (h1 : pos ≤ q) (h2 : q ≤ s.size) (hq : ¬ q < s.size) : IsStop f s pos q :=
  ⟨h1, h2, h, fun h => absurd h hq⟩

theorem u8_of (c : UInt8) (k : Nat) (hk : k < 256) (h : ((c.toNat : Int) == (k : Int)) = true) : c = UInt8.ofNat k := by
  apply UInt8.toNat_inj.1
  have : (c.toNat : Int) = (k : Int) := by simpa using h
  simp [UInt8.toNat_ofNat']
  omega
theorem u8_not (c : UInt8) (k : Nat) (hk : k < 256) (h : ((c.toNat : Int) == (k : Int)) = false) : (c == UInt8.ofNat k) = false := by
  rw [Bool.eq_false_iff] at h ⊢
  intro e
  apply h
  have : c = UInt8.ofNat k := by simpa using e
  rw [this]
  simp [UInt8.toNat_ofNat']
  omega

theorem blank_32 (c : UInt8) (h : ((c.toNat : Int) == 32) = true) : blankB c = true := by rw [u8_of c 32 (by decide) h]; decide
theorem blank_9 (c : UInt8) (h : ((c.toNat : Int) == 9) = true) : blankB c = true := by rw [u8_of c 9 (by decide) h]; decide
theorem blank_10 (c : UInt8) (h : ((c.toNat : Int) == 10) = true) : blankB c = true := by rw [u8_of c 10 (by decide) h]; decide
theorem blank_13 (c : UInt8) (h : ((c.toNat : Int) == 13) = true) : blankB c = true := by rw [u8_of c 13 (by decide) h]; decide
theorem blank_no (c : UInt8) (h1 : ((c.toNat : Int) == 32) = false) (h2 : ((c.toNat : Int) == 9) = false) (h3 : ((c.toNat : Int) == 10) = false) (h4 : ((c.toNat : Int) == 13) = false) : blankB c = false := by
  have a := u8_not c 32 (by decide) h1
  have b := u8_not c 9 (by decide) h2
  have d := u8_not c 10 (by decide) h3
  have e := u8_not c 13 (by decide) h4
  unfold blankB
  simp only [Bool.or_eq_false_iff]
  exact ⟨⟨⟨a, b⟩, d⟩, e⟩

theorem ret_u8 {a b : UInt8} (h : a = b) : Ending.returned (.int .u8 (a.toNat : Int)) = .returned (.int .u8 (b.toNat : Int)) := by rw [h]

set_option maxHeartbeats 1000000 in
theorem peek_any (s : ByteArray) (b pos : Nat) (w : World) (hs : s.size ≤ maxLen) (hp : pos ≤ s.size) (hd : DecAt b s w pos w) :
    Calls Try.prog 16 #[.pointer (some ⟨b, 0, none⟩)] w fun e w' => ∃ p : Nat, IsStop blankB s pos p ∧ e = .returned (.int .u8 (byteAt s p).toNat) ∧ DecAt b s w p w' := by
  unfold maxLen at hs
  go_enter Try.func16, Try.ntmps16
  go_wp2
  go_loopg [] (s.size - pos) (fun k wr => ∃ q : Nat, Hid (k = s.size - q) ∧ pos ≤ q ∧ q ≤ s.size ∧ Hid (RunTo blankB s pos q) ∧ Hid (DecAt b s w q wr))
  case atStart => exact ⟨pos, rfl, Nat.le_refl _, hp, fun i a c => by omega, hd⟩
  case round =>
    obtain ⟨q, hk, hq1, hq2, hrun, hdec⟩ := hrel
    clear hd
    have c0 := hdec.out.text
    have c1 := hdec.out.pos
    have cf := hdec.out.soft
    by_cases hlt : q < s.size
    · have hlt' : (q : Int) < (s.size : Int) := by omega
      go_wp2
      go_quiet (fail)
      go_wp2
      go_quiet (fail)
      go_wp2
      · go_roundg (s.size - (q + 1))
        case measure => have := hk.out; omega
        case rel => exact ⟨q + 1, rfl, by omega, by omega, hrun.out.step hlt (blank_32 _ (by assumption)), hdec.out.step _⟩
      · go_roundg (s.size - (q + 1))
        case measure => have := hk.out; omega
        case rel => exact ⟨q + 1, rfl, by omega, by omega, hrun.out.step hlt (blank_9 _ (by assumption)), hdec.out.step _⟩
      · go_roundg (s.size - (q + 1))
        case measure => have := hk.out; omega
        case rel => exact ⟨q + 1, rfl, by omega, by omega, hrun.out.step hlt (blank_10 _ (by assumption)), hdec.out.step _⟩
      · go_roundg (s.size - (q + 1))
        case measure => have := hk.out; omega
        case rel => exact ⟨q + 1, rfl, by omega, by omega, hrun.out.step hlt (blank_13 _ (by assumption)), hdec.out.step _⟩
      · go_ret
        exact ⟨q, hrun.out.stop hq1 hlt (blank_no _ (by assumption) (by assumption) (by assumption) (by assumption)), ret_u8 (byteAt_lt s q hlt).symm, hdec.out.drewN _⟩
    · have hlt' : ¬ (q : Int) < (s.size : Int) := by omega
      go_wp2
      go_quiet (fail)
      go_wp2
      go_ret
      exact ⟨q, hrun.out.done hq1 hq2 hlt, (ret_u8 (byteAt_ge s q (by omega))).symm, hdec.out.drewN _⟩

/-- A decoder that the call has just laid. -/
theorem dec_new (s : ByteArray) (pos : Nat) (dep : Int) (k : Value) (t : TypeId) (w : World) :
    DecAt w.heap.size s (w.alloc (.cells #[.string s, .int .i64 pos, .int .i64 dep, k] t)) pos (w.alloc (.cells #[.string s, .int .i64 pos, .int .i64 dep, k] t)) :=
  ⟨by simp, by simp, by simp, fun _ _ => rfl, Below.refl _ _⟩

set_option maxHeartbeats 1000000 in
theorem zzpeek_any (s : ByteArray) (pos : Nat) (dep : Int) (ka : Option Addr) (kl kc : Nat) (w : World) (hs : s.size ≤ maxLen) (hp : pos ≤ s.size) :
    Calls Try.prog 8 #[.string s, .int .i64 pos, .int .i64 dep, .slice ka kl kc] w fun e w' => ∃ p : Nat, IsStop blankB s pos p ∧ e = .returned (.tuple #[.int .u8 (byteAt s p).toNat, .string s, .int .i64 p, .int .i64 dep, .slice ka kl kc]) ∧ Below w.heap.size w w' := by
  go_enter Try.func8, Try.ntmps8
  go_wp2_with fail
  refine (peek_any s w.heap.size pos _ hs hp (dec_new s pos dep _ _ w)).mono ?_
  rintro e w1 ⟨p, hstop, rfl, hdec⟩
  have c0 := hdec.text
  have c1 := hdec.pos
  have c2 := hdec.rest 2 (by omega)
  have c3 := hdec.rest 3 (by omega)
  have hb := hdec.below
  simp at c2 c3
  have H : Hid (IsStop blankB s pos p) := hstop
  have HB : Hid (Below w.heap.size w w1) := ((Below.refl _ _).alloc (Nat.le_refl _) _).trans hb
  clear hdec hb hstop
  go_wp2
  go_quiet (fail)
  go_wp2
  exact bodyPost_ret (v := .tuple #[.int .u8 (byteAt s p).toNat, .string s, .int .i64 p, .int .i64 dep, .slice ka kl kc]) (by simp [results, Try.results8, go_sem]) rfl ⟨p, H.out, rfl, below_drewN HB.out _⟩
end Go.Proofs.Qxb6617773a
