/-
  THE STATEMENT 'Rows.FnLeastIsLeastAdequateReductionSaid': the walk of the law, and the row's step (the frame is the guide's skeleton tool's, in its form with 'Below').
-/
import Derived.Test.Qxb6617810aRows
import Derived.Test.Qxb6617810aNext
import Derived.WalkKit
import Derived.ProofKit
import Derived.OpenShut
import Derived.ShutString
import Derived.ChangeOld
import Derived.Below
namespace Go.Proofs.Qxb6617810a.fnLeastIsLeastAdequateReduction
open Go.ChangeShapes Go.WideShapes Go.ChangeAt Go.RowKit
open Go.ChangeMaps (open_string shut_string)
set_option linter.unusedVariables false

theorem own : ownKnob Try.prog.godebug = none := by kernel_rfl
theorem laidOut : laidOutB Try.prog = true := by kernel_rfl

/-! ### STEP 1: THE WALK -/
set_option maxRecDepth 100000 in
set_option maxHeartbeats 1000000 in
theorem walk (a0 : Int) (a1 : Int) (a2 : Bool) (a3 : Int) (w0 : (Lit.int .u64 a0).wf = true) (w1 : (Lit.int .u32 a1).wf = true) (w3 : (Lit.int .u64 a3).wf = true) (w : World) :
    Calls Try.prog 3 #[.int .u64 a0, .int .u32 a1, .bool a2, .int .u64 a3] w fun e w' => e = .returned (.bool true) ∧ Below w.heap.size w w' := by
  have b0 := bounds_u64 w0
  have b1 := bounds_u32 w1
  have b3 := bounds_u64 w3
  obtain ⟨c, rfl⟩ : ∃ c : Nat, a0 = c := ⟨a0.toNat, by omega⟩
  obtain ⟨r, rfl⟩ : ∃ r : Nat, a1 = r := ⟨a1.toNat, by omega⟩
  obtain ⟨x, rfl⟩ : ∃ x : Nat, a3 = x := ⟨a3.toNat, by omega⟩
  clear w0 w1 w3 b0 b1 b3
  by_cases hc : 1882320823847913 < c
  · go_enter Try.func3, Try.ntmps3
    go_wp2
    go_ret
    exact ⟨rfl, Below.refl _ _⟩
  by_cases hr : 99 < r
  · go_enter Try.func3, Try.ntmps3
    go_wp2
    go_ret
    exact ⟨rfl, Below.refl _ _⟩
  by_cases hx : 184467440737095516 < x
  · go_enter Try.func3, Try.ntmps3
    go_wp2
    go_ret
    exact ⟨rfl, Below.refl _ _⟩
  have hc' : c ≤ 1882320823847913 := by omega
  have hr' : r ≤ 99 := by omega
  have hx' : x ≤ 184467440737095516 := by omega
  clear hc hr hx
  have hd := ctl_new c r a2 w
  have HD : Hid (Below w.heap.size w (w.alloc (.cells #[.int .u64 c, .int .u32 r, .bool a2] 36))) := hd.below
  have HCAP : Hid _ := hd.cap
  have HRED : Hid _ := hd.red
  clear hd
  go_enter Try.func3, Try.ntmps3
  go_wp2_with fail
  refine (newctl_any (c : Int) (r : Int) a2 _).mono ?_
  rintro e v1 ⟨rfl, rfl⟩
  go_wp2_with fail
  refine (zzleast_any w.heap.size c r x _ hc' hr' hx' HCAP.out HRED.out).mono ?_
  rintro e v2 ⟨rfl, n, rfl⟩
  go_wp2_with fail
  refine (model_any c r x _ hc' hr' hx').mono ?_
  rintro e v3 ⟨rfl, hv3⟩
  subst hv3
  go_wp2_with fail
  go_ret
  exact ⟨rfl, below_drewN HD.out n⟩

/-! ### THE ROW's STEP: WRITTEN OUT: LEAVE IT -/
set_option maxRecDepth 100000 in
theorem lifted (os : Os) (started : os.Started) (H : Type) (enc : TypeId × Value → H) :
    ReturnsInHanded {} Try.checked os 3 .any (Rows.fnLeastIsLeastAdequateReductionSpec.pre6 enc Try.prog Try.f3 Rows.fnLeastIsLeastAdequateReductionRow.domain false) (Rows.fnLeastIsLeastAdequateReductionSpec.post enc Try.prog Try.f3 false true false false) := by
  refine returnsInHanded_of_change (C := Try.checked) own started (by kernel_rfl) Try.func3
    (ChangeSpec.witness6 (enc := enc) (C := Try.checked) false ⟨#[], #[.int .u64 0, .int .u32 0, .bool false, .int .u64 0], []⟩ 8 (by kernel_rfl) (by kernel_rfl) (by kernel_rfl) (by kernel_rfl)) ?_
  intro W base args ds gs before hval0 hW hcnd _
  have hval : ∀ (j : Nat) t v, Try.f3.params[j]? = some t → args[j]? = some v → Value.okWide Try.prog W .any base t v := hval0
  have hW' := hW
  obtain ⟨p, q, hA0, hV, rfl, hfz, hnd⟩ := hW
  have hA : DataW.TrodAll enc Try.prog W 0 (fun _ => true) true Try.f3.params.toList args.toList ds p := hA0
  rw [Try.params3] at hA hval
  obtain ⟨v0, vs0, d0, ds0, p0, q0, hargs, rfl, rfl, h0, r0⟩ := trodAll_cons hA
  obtain ⟨v1, vs1, d1, ds1, p1, q1, rfl, rfl, rfl, h1, r1⟩ := trodAll_cons r0
  obtain ⟨v2, vs2, d2, ds2, p2, q2, rfl, rfl, rfl, h2, r2⟩ := trodAll_cons r1
  obtain ⟨v3, vs3, d3, ds3, p3, q3, rfl, rfl, rfl, h3, r3⟩ := trodAll_cons r2
  obtain ⟨rfl, rfl, rfl⟩ := trodAll_nil r3
  obtain rfl : args = #[v0, v1, v2, v3] := by cases args; simp_all
  obtain ⟨rfl, rfl⟩ := trodVars_none hV
  obtain ⟨a0, rfl, rfl, rfl, w0⟩ := open_int Try.underlying22 (hval 0 22 v0 rfl rfl) h0
  obtain ⟨a1, rfl, rfl, rfl, w1⟩ := open_int Try.underlying23 (hval 1 23 v1 rfl rfl) h1
  obtain ⟨a2, rfl, rfl, rfl⟩ := open_bool Try.underlying4 (hval 2 4 v2 rfl rfl) h2
  obtain ⟨a3, rfl, rfl, rfl, w3⟩ := open_int Try.underlying22 (hval 3 22 v3 rfl rfl) h3
  clear hA0 hval0
  refine (walk a0 a1 a2 a3 w0 w1 w3 W).mono fun e W' ⟨he, bel⟩ => ?_
  subst he
  exact ⟨_, rfl, _, _, _, [], _, [], hW', trodAll_mk1 (shut_bool Try.underlying4 _), (trodAll_cons_mk (shut_int Try.underlying22 w0) (trodAll_cons_mk (shut_int Try.underlying23 w1) (trodAll_cons_mk (shut_bool Try.underlying4 _) (trodAll_cons_mk (shut_int Try.underlying22 w3) trodAll_mk0)))), rfl, bel.frame _, fun h => by cases h⟩

theorem over : Rows.fnLeastIsLeastAdequateReductionRow.holds Try.pinned (OpenSpec.ofChange Rows.fnLeastIsLeastAdequateReductionSpec) :=
  OpenClaim.holds_of_wide 3 Try.f3 rfl rfl rfl rfl rfl rfl rfl ⟨rfl, rfl, rfl, rfl, rfl⟩ rfl rfl rfl rfl rfl (by kernel_rfl) Try.func3 (by kernel_rfl)
    (of_decide_eq_true (by kernel_rfl)) (by unfold Func.isWrapper; first | (rw [if_pos (by decide +kernel)]; kernel_rfl) | (rw [if_neg (by decide +kernel)]; exact ⟨rfl, rfl⟩))
    (fun os started H enc _ => lifted os started H enc)

/-- ████ THE STATEMENT ████ -/
theorem proved : Rows.FnLeastIsLeastAdequateReductionSaid :=
  over
#print axioms proved
end Go.Proofs.Qxb6617810a.fnLeastIsLeastAdequateReduction
