/-
  THE WALKS of the seat's functions.
-/
import Derived.Test.Qxb6617795aRows
import Derived.Test.Qxb6617795aPlain
import Derived.WalkKit
import Derived.ProofKit
import Derived.Below
import Derived.WalkSmall
import Derived.WalkSpells
import Derived.WalkLawsBesides
import Derived.Deep.QuietTactic
import Derived.Deep.LoopGhost
import Derived.BigQuiet
namespace Go.Proofs.Qxb6617795a
open Go.ChangeShapes Go.WideShapes Go.ChangeAt Go.RowKit

/-- What 'zzEndsWith' answers. -/
def Answers (p : Prop) (w : World) (e : Ending) (w' : World) : Prop := ((e = .returned (.bool true) ∧ p) ∨ (e = .returned (.bool false) ∧ ¬ p)) ∧ ∃ n, w' = w.drewN n
theorem Answers.yes {p : Prop} {w : World} (h : p) (n : Nat) : Answers p w (.returned (.bool true)) (w.drewN n) := ⟨.inl ⟨rfl, h⟩, n, rfl⟩
theorem Answers.no {p : Prop} {w : World} (h : ¬ p) (n : Nat) : Answers p w (.returned (.bool false)) (w.drewN n) := ⟨.inr ⟨rfl, h⟩, n, rfl⟩

theorem Answers.no2 {p : Prop} {w : World} (h : ¬ p) (n m : Nat) : Answers p w (.returned (.bool false)) ((w.drewN n).drewN m) := ⟨.inr ⟨rfl, h⟩, n + m, World.drewN_drewN ..⟩

/-- The first j bytes are alike. -/
def Like (s suf : ByteArray) (off j : Nat) : Prop := ∀ i, i < j → byteAt s (off + i) = byteAt suf i

theorem like_step {s suf : ByteArray} {off j : Nat} (h : Like s suf off j) (e : byteAt s (off + j) = byteAt suf j) : Like s suf off (j + 1) := by
  intro i hi
  by_cases hij : i = j
  · subst hij; exact e
  · exact h i (by omega)

theorem ends_of_like {s suf : ByteArray} {off : Nat} (hoff : s.size = off + suf.size) (h : Like s suf off suf.size) : Ends s suf :=
  ⟨by omega, fun i hi => by rw [show s.size - suf.size + i = off + i by omega]; exact h i hi⟩

theorem not_ends {s suf : ByteArray} {off j : Nat} (hoff : s.size = off + suf.size) (hj : j < suf.size) (e : ¬ byteAt s (off + j) = byteAt suf j) : ¬ Ends s suf := by
  intro h
  have := h.same j hj
  rw [show s.size - suf.size + j = off + j by omega] at this
  exact e this

set_option maxRecDepth 100000 in
set_option maxHeartbeats 1000000 in
theorem ends_any (s suf : ByteArray) (w : World) (hs : s.size ≤ maxLen) (hf : suf.size ≤ maxLen) :
    Calls Try.prog 5 #[.string s, .string suf] w (Answers (Ends s suf) w) := by
  unfold maxLen at hs hf
  by_cases hle : suf.size ≤ s.size
  · obtain ⟨off, hoff⟩ : ∃ off, s.size = off + suf.size := ⟨s.size - suf.size, by omega⟩
    have HO : Hid (s.size = off + suf.size) := hoff
    go_enter Try.func5, Try.ntmps5
    go_wp2
    go_loopg [6] suf.size (fun g i wr => ∃ j : Nat, Hid (g = suf.size - j) ∧ j ≤ suf.size ∧ i = .int .i64 j ∧ Hid (Like s suf off j) ∧ ∃ n, wr = w.drewN n)
    case atStart => exact ⟨0, by simp [Hid], Nat.zero_le _, rfl, fun i hi => by omega, 0, rfl⟩
    case round =>
      obtain ⟨j, hg, hj, rfl, hlk, n, rfl⟩ := hrel
      clear hoff
      by_cases hlt : j < suf.size
      · obtain ⟨m, hm⟩ : ∃ m, m = off + j := ⟨_, rfl⟩
        have hmw : IntKind.i64.wrap ((off : Int) + (j : Int)) = (m : Int) := by rw [IntWalk.i64_in _ (by have := HO.out; omega), hm]; simp
        have h1 : (m : Int) < (s.size : Int) := by have := HO.out; omega
        have h2 : (j : Int) < (suf.size : Int) := by omega
        have h3 : m < s.size := by omega
        have HM : Hid (m = off + j) := hm
        clear hm
        go_wp2
        go_quiet (fail)
        go_wp2
        · have hx : ((s[m].toNat : Int) != (suf[j].toNat : Int)) = true := by assumption
          go_ret
          exact Answers.no2 (not_ends HO.out hlt (fun e => by rw [← HM.out, byteAt_lt s m h3, byteAt_lt suf j hlt] at e; rw [e] at hx; simp at hx)) _ _
        · have hx : ((s[m].toNat : Int) != (suf[j].toNat : Int)) = false := by assumption
          go_roundg (suf.size - (j + 1))
          case measure => have := hg.out; omega
          case rel =>
            refine ⟨j + 1, rfl, by omega, by go_num, like_step hlk.out ?_, _, rfl⟩
            rw [← HM.out, byteAt_lt s m h3, byteAt_lt suf j hlt]
            apply UInt8.toNat_inj.1
            simp at hx
            omega
      · go_wp2
        go_ret
        exact Answers.yes (ends_of_like HO.out (by rw [show suf.size = j by omega]; exact hlk.out)) n
  · go_enter Try.func5, Try.ntmps5
    go_wp2
    go_ret
    exact Answers.no (fun h => hle h.fits) 0

theorem newcol_any (nm dt : ByteArray) (nl gn : Bool) (w : World) :
    Calls Try.prog 7 #[.string nm, .string dt, .bool nl, .bool gn] w fun e w' => e = .returned (.agg #[.string nm, .string dt, .bool nl, .bool gn]) ∧ Below w.heap.size w w' := by
  go_enter Try.func7, Try.ntmps7
  go_wp2
  refine bodyPost_ret (v := .agg #[.string nm, .string dt, .bool nl, .bool gn]) (by simp [results, Try.results7, go_sem]) rfl ⟨rfl, ?_⟩
  exact (Below.refl _ _).alloc (Nat.le_refl _) _

theorem declared_any (nm dt : ByteArray) (nl gn : Bool) (w : World) (hs : dt.size ≤ 65536) :
    Calls Try.prog 9 #[.agg #[.string nm, .string dt, .bool nl, .bool gn]] w fun e w' => e = .returned (.string (declOf dt nl)) ∧ Below w.heap.size w w' := by
  cases nl
  · go_enter Try.func9, Try.ntmps9
    go_wp2
    go_ret
    exact ⟨rfl, (Below.refl _ _).alloc (Nat.le_refl _) _⟩
  · go_enter Try.func9, Try.ntmps9
    go_wp2
    go_ret
    exact ⟨rfl, (Below.refl _ _).alloc (Nat.le_refl _) _⟩

theorem zzdeclared_any (nm dt : ByteArray) (nl gn : Bool) (w : World) (hs : dt.size ≤ 65536) :
    Calls Try.prog 6 #[.agg #[.string nm, .string dt, .bool nl, .bool gn]] w fun e w' => e = .returned (.string (declOf dt nl)) ∧ Below w.heap.size w w' := by
  go_enter Try.func6, Try.ntmps6
  go_wp2_with fail
  refine (declared_any nm dt nl gn _ hs).mono ?_
  rintro e w1 ⟨rfl, hb⟩
  have HB : Hid (Below w.heap.size w w1) := ((Below.refl _ _).alloc (Nat.le_refl _) _).trans (hb.mono (by simp))
  clear hb
  go_wp2
  go_ret
  exact ⟨rfl, HB.out⟩

/-- A declaration that ends in ' NOT NULL'. -/
theorem read_notnull (d : ByteArray) (w : World) (hd : d.size ≤ 70000) (h : Ends d sNotNull) :
    Calls Try.prog 8 #[.string d] w fun e w' => e = .returned (.tuple #[.string (d.extract 0 (d.size - 9)), .bool false, .bool true]) ∧ ∃ n, w' = w.drewN n := by
  have hf := h.fits
  rw [show sNotNull.size = 9 from rfl] at hf
  go_enter Try.func8, Try.ntmps8
  go_wp2_with fail
  refine (ends_any d sNotNull _ (by unfold maxLen; omega) (by decide)).mono ?_
  rintro e w1 ⟨he, n, rfl⟩
  rcases he with ⟨rfl, _⟩ | ⟨_, hn⟩
  · go_wp2_with fail
    go_ret3
    exact ⟨rfl, n, rfl⟩
  · exact absurd h hn

/-- A declaration that ends in ' NULL' and not in ' NOT NULL'. -/
theorem read_null (d : ByteArray) (w : World) (hd : d.size ≤ 70000) (hn : ¬ Ends d sNotNull) (h : Ends d sNull) :
    Calls Try.prog 8 #[.string d] w fun e w' => e = .returned (.tuple #[.string (d.extract 0 (d.size - 5)), .bool true, .bool true]) ∧ ∃ n, w' = w.drewN n := by
  have hf := h.fits
  rw [show sNull.size = 5 from rfl] at hf
  go_enter Try.func8, Try.ntmps8
  go_wp2_with fail
  refine (ends_any d sNotNull _ (by unfold maxLen; omega) (by decide)).mono ?_
  rintro e w1 ⟨he, n, rfl⟩
  rcases he with ⟨_, hx⟩ | ⟨rfl, _⟩
  · exact absurd hx hn
  go_wp2_with fail
  refine (ends_any d sNull _ (by unfold maxLen; omega) (by decide)).mono ?_
  rintro e w2 ⟨he, n2, rfl⟩
  rcases he with ⟨rfl, _⟩ | ⟨_, hx⟩
  · go_wp2_with fail
    go_ret3
    exact ⟨rfl, _, rfl⟩
  · exact absurd h hx

/-- What the bound lets by, or not: nothing is written. -/
theorem bytes4 (a0 a1 : ByteArray) (a2 a3 : Bool) (a4 : ByteArray) (a5 : Bool) (w : World) (w0 : a0.size ≤ maxLen) (w1 : a1.size ≤ maxLen) (w4 : a4.size ≤ maxLen) :
    Calls Try.prog 4 #[.string a0, .string a1, .bool a2, .bool a3, .string a4, .bool a5] w fun e w' => (e = .returned (.bool true) ∨ e = .returned (.bool false)) ∧ w' = w := by
  unfold maxLen at w0 w1 w4
  by_cases h0 : a0.size ≤ 1048576
  · by_cases h1 : a1.size ≤ 1048576
    · by_cases h01 : a0.size + a1.size ≤ 1048576
      · by_cases h4 : a4.size ≤ 1048576
        · by_cases h014 : a0.size + a1.size + a4.size ≤ 1048576
          · go_enter Try.func4, Try.ntmps4
            go_wp2
            go_ret
            exact ⟨.inl rfl, rfl⟩
          · go_enter Try.func4, Try.ntmps4
            go_wp2
            go_ret
            exact ⟨.inr rfl, rfl⟩
        · go_enter Try.func4, Try.ntmps4
          go_wp2
          go_ret
          exact ⟨.inr rfl, rfl⟩
      · go_enter Try.func4, Try.ntmps4
        go_wp2
        go_ret
        exact ⟨.inr rfl, rfl⟩
    · go_enter Try.func4, Try.ntmps4
      go_wp2
      go_ret
      exact ⟨.inr rfl, rfl⟩
  · go_enter Try.func4, Try.ntmps4
    go_wp2
    go_ret
    exact ⟨.inr rfl, rfl⟩
end Go.Proofs.Qxb6617795a
