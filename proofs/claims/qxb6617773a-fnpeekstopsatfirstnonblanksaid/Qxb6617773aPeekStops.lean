import Derived.Test.Qxb6617773aSame
import Derived.Deep.DeepCutAuto
namespace Go.Proofs.Qxb6617773a
open Go.ChangeShapes Go.WideShapes Go.ChangeAt Go.RowKit

set_option maxRecDepth 100000 in
set_option maxHeartbeats 1000000 in
theorem walk3 (s : ByteArray) (pos dep : Int) (ka : Option Addr) (len cap : Nat) (ss : List ByteArray) (w : World) (hs : s.size ≤ maxLen) (hl : len ≤ maxLen) (hss : ∀ i, i < len → (ss.getD i ByteArray.empty).size ≤ maxLen)
    (hc : IsStrs w ka len ss) :
    Calls Try.prog 3 #[.string s, .int .i64 pos, .int .i64 dep, .slice ka len cap] w fun e w' => e = .returned (.bool true) ∧ Below w.heap.size w w' := by
  have hne := fun w => run_neq_slice_nil_any (P := Try.prog) w 22 9 ka len cap 0 0 Try.underlying22
  go_enter Try.func3, Try.ntmps3
  go_wp2_with fail
  refine (bytes7 s pos dep ka len cap ss w hs hl hss hc).mono ?_
  rintro e w1 ⟨he, rfl⟩
  rcases he with rfl | ⟨rfl, hsm⟩
  · go_wp2_with fail
    go_ret
    exact ⟨rfl, Below.refl _ _⟩
  obtain ⟨h1, h2, h3⟩ := hsm
  have HC : Hid (IsStrs w1 ka len ss) := hc
  have HS3 : Hid (∀ i, i < len → (ss.getD i ByteArray.empty).size ≤ 1048576) := h3
  clear hss hl h3 hc
  have hmk := run_make_row' (P := Try.prog) 22 9 (.string ByteArray.empty) 16 Try.underlying22 info9 rfl .i64 .i64 len (by omega) (by omega)
  go_upto_if 30 with fail
  go_cut [3] (fun v wc => ∃ ka' kc', v = .slice ka' len kc' ∧ Hid (IsStrs wc ka' len ss) ∧ Hid (Below w1.heap.size w1 wc))
  case first =>
    cases ka with
    | none =>
      go_wp2
      go_meet
      case rel => exact ⟨none, cap, rfl, HC, Below.refl _ _⟩
    | some x =>
      go_wp2_with (refine wpList_copy_splice rfl (.tmp 34) (.tmp 35) 22 22 rfl 9 Try.underlying22 size9 _ (some x) len len len cap rfl rfl w1.heap.size 0 _ 9 (made_block w1 len) (strCells ss len) (copy_len ss len) (copy_src HC _) (copy_fit ss len) (copy_one ss len) w1.heap.size w1 (made_below w1 _) (Nat.le_refl _) ?_; intro w2 hi2 hb2)
      go_meet
      case rel => exact ⟨_, len, rfl, strs_of_splice hi2, hb2⟩
  case rest =>
    obtain ⟨ka', kc', rfl, HC', HB⟩ := hcut
    clear hne hmk HC
    go_wp2
    go_loop [10, 11] (fun n i => ∃ j : Nat, j ≤ len ∧ i = .int .i64 j ∧ (∃ m : Nat, m ≤ 1048576 ∧ n = .int .i64 m)) (fun _ i => len - (intOf i).toNat)
    case atStart => exact ⟨0, Nat.zero_le _, rfl, ⟨s.size, h1, by simp⟩⟩
    case round =>
      obtain ⟨j, hj, rfl, ⟨m, hm, rfl⟩⟩ := hrel
      by_cases hlt : j < len
      · obtain ⟨b, off, rfl, _, hcj⟩ := HC'.out j hlt
        have hsj := HS3.out j hlt
        obtain ⟨x, hx⟩ : ∃ x, x = ss.getD j ByteArray.empty := ⟨_, rfl⟩
        rw [← hx] at hcj hsj
        clear hx
        go_wp2
        · go_ret
          exact ⟨rfl, HB.out⟩
        · have hms : (m : Int) + (16 + (x.size : Int)) ≤ 1048576 := by assumption
          go_round
          case rel => exact ⟨j + 1, by omega, by go_num, ⟨m + (16 + x.size), by omega, by go_num⟩⟩
          case measure => simp [intOf]; omega
      · by_cases hp0 : pos < 0
        · go_wp2
          go_ret
          exact ⟨rfl, HB.out⟩
        by_cases hp1 : (s.size : Int) < pos
        · go_wp2
          go_ret
          exact ⟨rfl, HB.out⟩
        obtain ⟨p0, rfl⟩ : ∃ p0 : Nat, pos = p0 := ⟨pos.toNat, by omega⟩
        clear HS3
        go_wp2_with fail
        refine (zzpeek_any s p0 dep ka' len kc' _ hs (by omega)).mono ?_
        rintro e w2 ⟨p, hst, rfl, hb2⟩
        have hlo := hst.lo
        have hhi := hst.hi
        have HST : Hid (IsStop blankB s p0 p) := hst
        have hpi : (p : Int) ≤ s.size := by omega
        have hpl : (p0 : Int) ≤ p := by omega
        have HC2 : IsStrs w2 ka' len ss := IsStrs.later HC'.out hb2
        have HB2 : Hid (Below w1.heap.size w1 w2) := HB.out.trans (hb2.mono HB.out.size)
        clear hst hb2 HC'
        obtain ⟨c, hcc⟩ : ∃ c, c = byteAt s p := ⟨_, rfl⟩
        rw [← hcc]
        have HCC : Hid (c = byteAt s p) := hcc
        have HK : Hid (IsStrs w2 ka' len ss) := HC2
        clear hcc HC2
        go_wp2_with fail
        refine (samekeys_any ka' len kc' ss _ h2 HK.out).mono ?_
        rintro e w3 ⟨rfl, n3, rfl⟩
        have HB3 : Hid (Below w1.heap.size w1 (w2.drewN n3)) := below_drewN HB2.out n3
        have d1 : decide (p < p0) = false := decide_eq_false (by omega)
        have d2 : decide (s.size < p) = false := decide_eq_false (by omega)
        clear HB2 HK HB
        go_wp2_with fail
        clear d1 d2
        go_loopg [17] (p - p0) (fun g i wr => ∃ j : Nat, Hid (g = p - j) ∧ p0 ≤ j ∧ j ≤ p ∧ i = .int .i64 j ∧ wr = w2.drewN n3)
        case atStart => exact ⟨p0, rfl, Nat.le_refl _, hlo, rfl, rfl⟩
        case round =>
          obtain ⟨j2, hg, hj1, hj2, rfl, rfl⟩ := hrel
          by_cases hjp : j2 < p
          · have hjs : j2 < s.size := by omega
            have hbl : blankB s[j2] = true := by rw [← byteAt_lt s j2 hjs]; exact HST.out.run j2 hj1 hjp
            go_wp2_with fail
            refine (zzblank_any s[j2] _).mono ?_
            rintro e w4 ⟨rfl, hw4⟩
            subst hw4
            rw [hbl]
            clear hbl
            go_wp2_with fail
            go_roundg (p - (j2 + 1))
            case measure => have := hg.out; omega
            case rel => exact ⟨j2 + 1, rfl, by omega, by omega, by go_num, rfl⟩
          · obtain rfl : j2 = p := by omega
            clear hg
            by_cases hps : j2 < s.size
            · have hcs : s[j2] = c := by rw [HCC.out, byteAt_lt s j2 hps]
              have hbl : blankB c = false := by rw [HCC.out]; exact HST.out.stop hps
              have hne2 : ((j2 : Int) == (s.size : Int)) = false := by simp; omega
              go_wp2_with fail
              refine (zzblank_any _ _).mono ?_
              rintro e w4 ⟨rfl, hw4⟩
              subst hw4
              rw [hbl]
              clear hbl
              go_wp2_with fail
              refine (zzpeek_any s j2 dep ka' len kc' _ hs hhi).mono ?_
              rintro e w5 ⟨p2, hst5, rfl, hb5⟩
              obtain rfl : p2 = j2 := hst5.same HST.out.again
              have HB5 : Hid (Below w1.heap.size w1 w5) := HB3.out.trans (hb5.mono HB3.out.size)
              clear hst5 hb5
              rw [← HCC.out]
              go_wp2
              go_ret
              exact ⟨rfl, HB5.out⟩
            · obtain rfl : s.size = j2 := by omega
              obtain rfl : c = 0 := by rw [HCC.out]; exact byteAt_ge _ _ (Nat.le_refl _)
              go_wp2_with fail
              refine (zzpeek_any s s.size dep ka' len kc' _ hs hhi).mono ?_
              rintro e w5 ⟨p2, hst5, rfl, hb5⟩
              obtain rfl : p2 = s.size := hst5.same HST.out.again
              have HB5 : Hid (Below w1.heap.size w1 w5) := HB3.out.trans (hb5.mono HB3.out.size)
              clear hst5 hb5
              rw [← HCC.out]
              go_wp2
              go_ret
              exact ⟨rfl, HB5.out⟩
end Go.Proofs.Qxb6617773a
