import Derived.Test.Qxb6617773aPeek
import Derived.Test.Qxb6617773aKeys
import Derived.Deep.DeepCutAuto
namespace Go.Proofs.Qxb6617773a
open Go.ChangeShapes Go.WideShapes Go.ChangeAt Go.RowKit

set_option maxRecDepth 100000 in
set_option maxHeartbeats 1000000 in
theorem walk5 (s : ByteArray) (pos dep k : Int) (ka : Option Addr) (len cap : Nat) (ss : List ByteArray) (w : World) (hs : s.size ≤ maxLen) (hl : len ≤ maxLen) (hss : ∀ i, i < len → (ss.getD i ByteArray.empty).size ≤ maxLen)
    (hc : IsStrs w ka len ss) :
    Calls Try.prog 5 #[.string s, .int .i64 pos, .int .i64 dep, .slice ka len cap, .int .i64 k] w fun e w' => e = .returned (.bool true) ∧ Below w.heap.size w w' := by
  have hne := fun w => run_neq_slice_nil_any (P := Try.prog) w 22 9 ka len cap 0 0 Try.underlying22
  go_enter Try.func5, Try.ntmps5
  go_wp2_with fail
  refine (bytes14 s pos dep k ka len cap ss w hs hl hss hc).mono ?_
  rintro e w1 ⟨he, rfl⟩
  rcases he with rfl | ⟨rfl, hsm⟩
  · go_wp2_with fail
    go_ret
    exact ⟨rfl, Below.refl _ _⟩
  obtain ⟨h1, h2, h3⟩ := hsm
  have HC : Hid (IsStrs w1 ka len ss) := hc
  have HS3 : Hid (∀ i, i < len → (ss.getD i ByteArray.empty).size ≤ 1048576) := h3
  clear hss hl h3 hc
  have hmk := run_make_row' (P := Try.prog) 22 9 (.string ByteArray.empty) 16 Try.underlying22 info9 rfl .i64 .i64 len (by omega) (by omega)
  go_upto_if 37 with fail
  go_cut [3] (fun v wc => ∃ ka' kc', v = .slice ka' len kc' ∧ Hid (IsStrs wc ka' len ss) ∧ Hid (Below w1.heap.size w1 wc))
  case first =>
    cases ka with
    | none =>
      go_wp2
      go_meet
      case rel => exact ⟨none, cap, rfl, HC, Below.refl _ _⟩
    | some x =>
      go_wp2_with (refine wpList_copy_splice rfl (.tmp 41) (.tmp 42) 22 22 rfl 9 Try.underlying22 size9 _ (some x) len len len cap rfl rfl w1.heap.size 0 _ 9 (made_block w1 len) (strCells ss len) (copy_len ss len) (copy_src HC _) (copy_fit ss len) (copy_one ss len) w1.heap.size w1 (made_below w1 _) (Nat.le_refl _) ?_; intro w2 hi2 hb2)
      go_meet
      case rel => exact ⟨_, len, rfl, strs_of_splice hi2, hb2⟩
  case rest =>
    obtain ⟨ka', kc', rfl, HC', HB⟩ := hcut
    clear hne hmk HC
    go_wp2
    go_loop [12, 13] (fun n i => ∃ j : Nat, j ≤ len ∧ i = .int .i64 j ∧ (∃ m : Nat, m ≤ 1048576 ∧ n = .int .i64 m)) (fun _ i => len - (intOf i).toNat)
    case atStart => exact ⟨0, Nat.zero_le _, rfl, ⟨s.size, h1, by simp⟩⟩
    case round =>
      obtain ⟨j, hj, rfl, ⟨m, hm, rfl⟩⟩ := hrel
      by_cases hlt : j < len
      · obtain ⟨b, off, rfl, _, hcj⟩ := HC'.out j hlt
        have hsj := HS3.out j hlt
        obtain ⟨x, hx⟩ : ∃ x, x = ss.getD j ByteArray.empty := ⟨_, rfl⟩
        rw [← hx] at hcj hsj
        clear hx
        go_wp2
        · go_ret
          exact ⟨rfl, HB.out⟩
        · have hms : (m : Int) + (16 + (x.size : Int)) ≤ 1048576 := by assumption
          go_round
          case rel => exact ⟨j + 1, by omega, by go_num, ⟨m + (16 + x.size), by omega, by go_num⟩⟩
          case measure => simp [intOf]; omega
      · by_cases hp0 : pos < 0
        · go_wp2
          go_ret
          exact ⟨rfl, HB.out⟩
        by_cases hp1 : (s.size : Int) < pos
        · go_wp2
          go_ret
          exact ⟨rfl, HB.out⟩
        obtain ⟨p0, rfl⟩ : ∃ p0 : Nat, pos = p0 := ⟨pos.toNat, by omega⟩
        clear HC' HS3
        go_wp2_with fail
        refine (zzpeek_any s p0 dep ka' len kc' _ hs (by omega)).mono ?_
        rintro e w2 ⟨p, hst, rfl, hb2⟩
        have hlo := hst.lo
        have hhi := hst.hi
        have HST : Hid (IsStop blankB s p0 p) := hst
        have HB2 : Hid (Below w1.heap.size w1 w2) := HB.out.trans (hb2.mono HB.out.size)
        have hpi : (p : Int) ≤ s.size := by omega
        have hpl : (p0 : Int) ≤ p := by omega
        clear hst hb2
        have hby : byteAt s p = if h : p < s.size then s[p] else 0 := by
          by_cases h : p < s.size
          · rw [dif_pos h, byteAt_lt s p h]
          · rw [dif_neg h, byteAt_ge s p (by omega)]
        obtain ⟨c, hcc⟩ : ∃ c, c = byteAt s p := ⟨_, rfl⟩
        rw [← hcc] at hby ⊢
        have HCC : Hid (c = byteAt s p) := hcc
        clear hcc
        by_cases hk0 : k < p0
        · by_cases hps : p < s.size
          all_goals
            simp only [hps, dite_true, dite_false] at hby
            subst hby
            go_wp2
            go_ret
            exact ⟨rfl, HB2.out⟩
        by_cases hk1 : (s.size : Int) < k
        · by_cases hps : p < s.size
          all_goals
            simp only [hps, dite_true, dite_false] at hby
            subst hby
            go_wp2
            go_ret
            exact ⟨rfl, HB2.out⟩
        obtain ⟨q, rfl⟩ : ∃ q : Nat, k = q := ⟨k.toNat, by omega⟩
        have hq1 : p0 ≤ q := by omega
        have hq2 : q ≤ s.size := by omega
        have hsz := size_cut s q hq2
        have HSZ : Hid ((s.extract 0 q).size = q) := hsz
        clear hsz
        by_cases hps : p < s.size
        all_goals
          simp only [hps, dite_true, dite_false] at hby
          subst hby
          go_wp2_with fail
          refine (zzpeek_any (s.extract 0 q) p0 dep ka' len kc' _ (by rw [HSZ.out]; unfold maxLen at *; omega) (by rw [HSZ.out]; omega)).mono ?_
          rintro e w3 ⟨pc, hst3, rfl, hb3⟩
          have HB3 : Hid (Below w1.heap.size w1 w3) := HB2.out.trans (hb3.mono HB2.out.size)
          by_cases hkp : q ≤ p
          · obtain rfl : pc = q := HST.out.cut_in hq1 hkp hst3
            have hz : byteAt (s.extract 0 pc) pc = 0 := byteAt_ge _ _ (by rw [HSZ.out]; omega)
            clear hst3 hb3
            go_wp2_with fail
            refine (zzpeek_any s pc dep ka' len kc' _ hs hq2).mono ?_
            rintro e w4 ⟨pq, hst4, rfl, hb4⟩
            obtain rfl : pq = p := hst4.same (HST.out.inside hq1 hkp)
            have HB4 : Hid (Below w1.heap.size w1 w4) := HB3.out.trans (hb4.mono HB3.out.size)
            clear hst4 hb4
            rw [← HCC.out]
            go_wp2
            go_ret
            exact ⟨rfl, HB4.out⟩
          · obtain rfl : pc = p := HST.out.cut_out (by omega) hq2 hst3
            have hz : byteAt (s.extract 0 q) pc = byteAt s pc := byteAt_cut s q pc hq2 (by omega)
            rw [hz, ← HCC.out]
            clear hst3 hb3 hz
            go_wp2
            go_ret
            exact ⟨rfl, HB3.out⟩
end Go.Proofs.Qxb6617773a
