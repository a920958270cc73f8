/-
  THE WALK OF 'FnNextFollowsOverloadPolicy' (4).
-/
import Derived.Test.Qxb6617810aNext
import Derived.Deep.DeepCutAuto
namespace Go.Proofs.Qxb6617810a
open Go.ChangeShapes Go.WideShapes Go.ChangeAt Go.RowKit

/-- WHAT THE WALK IS TOLD OF A SLICE OF uint64: its 'len' elements are the numbers 'zs' (a nil slice: none). -/
def IsInts (w : World) (a : Option Addr) (len : Nat) (zs : Nat → Nat) : Prop :=
  ∀ i, i < len → ∃ b off, a = some ⟨b, off, none⟩ ∧ b < w.heap.size ∧ w.cell? ⟨b, off + i, none⟩ = some (.int .u64 (zs i)) ∧ zs i ≤ 18446744073709551615

/-- The policy's own word for the next reduction. -/
theorem policy_idle {c r x : Nat} (h : ¬ c * 98 < x * 100) (h1 : x * 100 < c * 90) (h2 : leastN c r x < r) : nextN c r false x = (r + leastN c r x) / 2 := by
  rw [next_idle h h1 h2, half_way h2]

set_option maxRecDepth 100000 in
set_option maxHeartbeats 1000000 in
theorem walk4_in (c r : Nat) (ch : Bool) (a : Option Addr) (len cap : Nat) (zs : Nat → Nat) (w : World) (hc : c ≤ 1882320823847913) (hr : r ≤ 99) (hl : len ≤ 65536) (hz : IsInts w a len zs) :
    Calls Try.prog 4 #[.int .u64 c, .int .u32 r, .bool ch, .slice a len cap] w fun e w' => e = .returned (.bool true) ∧ Below w.heap.size w w' := by
  have HZ : Hid (IsInts w a len zs) := hz
  clear hz
  go_enter Try.func4, Try.ntmps4
  go_wp2
  go_loop [9] (fun v => ∃ i : Nat, i ≤ len ∧ v = .int .i64 i ∧ Hid (∀ j, j < i → zs j ≤ 184467440737095516)) (fun v => len - (intOf v).toNat)
  case atStart => exact ⟨0, Nat.zero_le _, rfl, fun j hj => by omega⟩
  case round =>
    obtain ⟨i, hi, rfl, hall⟩ := hrel
    by_cases hlt : i < len
    · obtain ⟨b, off, rfl, hb, hcell, hbd⟩ := HZ.out i hlt
      obtain ⟨x, hx⟩ : ∃ x, x = zs i := ⟨_, rfl⟩
      rw [← hx] at hcell hbd
      have HX : Hid (x = zs i) := hx
      clear hx
      by_cases hbig : 184467440737095516 < x
      · go_wp2
        go_ret
        exact ⟨rfl, Below.refl _ _⟩
      · go_wp2
        go_round
        case rel =>
          refine ⟨i + 1, by omega, by go_num, fun j hj => ?_⟩
          by_cases e : j = i
          · subst e; rw [← HX.out]; omega
          · exact hall.out j (by omega)
        case measure => simp [intOf]; omega
    · have HALL : Hid (∀ j, j < len → zs j ≤ 184467440737095516) := fun j hj => hall.out j (by omega)
      clear hall
      go_wp2_with fail
      refine (newctl_any (c : Int) (r : Int) ch _).mono ?_
      rintro e v1 ⟨rfl, hv1⟩
      have HD : Hid (CtlAt w.heap.size c r ch w v1) := by rw [hv1]; exact ctl_new c r ch w
      clear hv1
      go_wp2_with fail
      go_loopg [11, 12, 13] len (fun g vr vp vi wr => ∃ (i R : Nat) (P : Bool), Hid (g = len - i) ∧ i ≤ len ∧ vi = .int .i64 i ∧ R ≤ 99 ∧ vr = .int .u32 R ∧ vp = .bool P ∧ Hid (CtlAt w.heap.size c R P w wr))
      case atStart => exact ⟨0, r, ch, by simp [Hid], Nat.zero_le _, rfl, hr, rfl, rfl, HD⟩
      case round =>
        obtain ⟨j, R, P, hg, hj, rfl, hR, rfl, rfl, hdec⟩ := hrel
        clear HD
        by_cases hjl : j < len
        · obtain ⟨b, off, rfl, hb, hcell, _⟩ := HZ.out j hjl
          have hxb := HALL.out j hjl
          obtain ⟨x, hx⟩ : ∃ x, x = zs j := ⟨_, rfl⟩
          rw [← hx] at hcell hxb
          clear hx
          rw [← hdec.out.below.cell (p := ⟨b, off + j, none⟩) hb] at hcell
          obtain ⟨m, hm⟩ : ∃ m, m = nextN c R P x := ⟨_, rfl⟩
          have hm99 : m ≤ 99 := by rw [hm]; exact nextN_le P x hR
          have HM : Hid (m = nextN c R P x) := hm
          clear hm
          go_upto_if 60 with fail
          go_cut [12, 15] (fun vp vw wc => vp = .bool false ∧ vw = .int .u32 m ∧ wc = wr)
          case first =>
            cases P
            case true =>
              obtain rfl : m = R := by rw [HM.out]; exact next_changed c R x
              go_wp2_with fail
              go_meet
              case rel => exact ⟨rfl, rfl, rfl⟩
            case false =>
              have hle := leastN_le c R x
              go_wp2_with fail
              refine (model_any c R x _ hc hR hxb).mono ?_
              rintro e v2 ⟨rfl, hv2⟩
              subst hv2
              obtain ⟨l, hl2⟩ : ∃ l, l = leastN c R x := ⟨_, rfl⟩
              rw [← hl2] at hle ⊢
              have HL : Hid (l = leastN c R x) := hl2
              clear hl2
              by_cases hov : c * 98 < x * 100
              · obtain rfl : m = l := by rw [HM.out, next_over hov, HL.out]
                go_wp2_with fail
                go_meet
                case rel => exact ⟨rfl, rfl, rfl⟩
              by_cases hid : x * 100 < c * 90 ∧ l < R
              · obtain ⟨hi1, hi2⟩ := hid
                have hmi : ((R : Int) + (l : Int)) / 2 = (m : Int) := by
                  have := HM.out
                  rw [policy_idle hov hi1 (by rw [← HL.out]; exact hi2), ← HL.out] at this
                  omega
                go_wp2_with fail
                go_meet
                case rel => exact ⟨rfl, by rw [hmi], rfl⟩
              · obtain rfl : m = R := by rw [HM.out, next_keep hov (by rw [← HL.out]; exact hid)]
                by_cases hi1 : x * 100 < c * 90
                · have hi2 : m ≤ l := by omega
                  clear hid
                  go_wp2_with fail
                  go_meet
                  case rel => exact ⟨rfl, rfl, rfl⟩
                · clear hid
                  go_wp2_with fail
                  go_meet
                  case rel => exact ⟨rfl, rfl, rfl⟩
          case rest =>
            obtain ⟨rfl, rfl, rfl⟩ := hcut
            clear hcell
            go_wp2_with fail
            refine (next_any w.heap.size c R x P w _ hc hR hxb hdec.out).mono ?_
            rintro e v3 ⟨he, hd3⟩
            rw [← HM.out] at he hd3
            subst he
            by_cases hmR : m = R
            · subst hmR
              rw [decide_eq_false (by simp)] at hd3
              have HD3 : Hid (CtlAt w.heap.size c m false w v3) := hd3
              clear hd3 hdec
              go_wp2_with fail
              go_roundg (len - (j + 1))
              case measure => have := hg.out; omega
              case rel => exact ⟨j + 1, m, false, rfl, by omega, by go_num, hm99, rfl, rfl, HD3⟩
            · rw [decide_eq_true hmR] at hd3 ⊢
              have HD3 : Hid (CtlAt w.heap.size c m true w v3) := hd3
              clear hd3 hdec
              have hne : ((m : Int) != (R : Int)) = true := by simp; omega
              go_wp2_with fail
              go_roundg (len - (j + 1))
              case measure => have := hg.out; omega
              case rel => exact ⟨j + 1, m, true, rfl, by omega, by go_num, hm99, rfl, rfl, HD3⟩
        · go_wp2_with fail
          go_ret
          exact ⟨rfl, hdec.out.below⟩
end Go.Proofs.Qxb6617810a
