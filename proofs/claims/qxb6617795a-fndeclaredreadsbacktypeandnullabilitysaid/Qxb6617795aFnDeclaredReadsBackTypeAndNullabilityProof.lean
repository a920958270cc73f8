/-
  THE STATEMENT 'Rows.FnDeclaredReadsBackTypeAndNullabilitySaid': the walk of the law, and the row's step (the frame is the guide's skeleton tool's, its last row turned to 'Below').
-/
import Derived.Test.Qxb6617795aRows
import Derived.Test.Qxb6617795aWalk
import Derived.WalkKit
import Derived.ProofKit
import Derived.OpenShut
import Derived.ShutString
import Derived.ChangeOld
import Derived.Below
namespace Go.Proofs.Qxb6617795a.fnDeclaredReadsBackTypeAndNullability
open Go.ChangeShapes Go.WideShapes Go.ChangeAt Go.RowKit
open Go.ChangeMaps (open_string shut_string)
set_option linter.unusedVariables false

theorem own : ownKnob Try.prog.godebug = none := by kernel_rfl

/-! ### STEP 1: THE WALK -/
set_option maxRecDepth 100000 in
set_option maxHeartbeats 1000000 in
theorem walk (a0 : ByteArray) (a1 : ByteArray) (a2 : Bool) (a3 : Bool) (a4 : ByteArray) (a5 : Bool) (w0 : a0.size ≤ maxLen) (w1 : a1.size ≤ maxLen) (w4 : a4.size ≤ maxLen) (w : World) :
    Calls Try.prog 3 #[.string a0, .string a1, .bool a2, .bool a3, .string a4, .bool a5] w fun e w' => e = .returned (.bool true) ∧ Below w.heap.size w w' := by
  go_enter Try.func3, Try.ntmps3
  go_wp2_with fail
  refine (bytes4 a0 a1 a2 a3 a4 a5 _ w0 w1 w4).mono ?_
  rintro e v1 ⟨he, rfl⟩
  rcases he with rfl | rfl
  case inr =>
    go_wp2_with fail
    go_ret
    exact ⟨rfl, Below.refl _ _⟩
  by_cases h0 : 65536 < a0.size
  · go_wp2_with fail
    go_ret
    exact ⟨rfl, Below.refl _ _⟩
  by_cases h1 : 65536 < a1.size
  · go_wp2_with fail
    go_ret
    exact ⟨rfl, Below.refl _ _⟩
  by_cases h4 : 65536 < a4.size
  · go_wp2_with fail
    go_ret
    exact ⟨rfl, Below.refl _ _⟩
  have h1' : a1.size ≤ 65536 := by omega
  go_wp2_with fail
  refine (ends_any a1 sNot _ w1 (by decide)).mono ?_
  rintro e v2 ⟨he, n2, rfl⟩
  rcases he with ⟨rfl, _⟩ | ⟨rfl, hno⟩
  · go_wp2_with fail
    go_ret
    exact ⟨rfl, below_drewN (Below.refl _ _) _⟩
  have HN : Hid (¬ Ends a1 sNot) := hno
  clear hno h0 h1 h4
  go_wp2_with fail
  refine (newcol_any a0 a1 a2 a3 _).mono ?_
  rintro e v3 ⟨rfl, hb3⟩
  have HB3 : Hid (Below v1.heap.size v1 v3) := (below_drewN (Below.refl _ _) n2).trans hb3
  clear hb3
  go_wp2_with fail
  refine (zzdeclared_any a0 a1 a2 a3 _ h1').mono ?_
  rintro e v4 ⟨rfl, hb4⟩
  have HB4 : Hid (Below v1.heap.size v1 v4) := HB3.out.trans (hb4.mono HB3.out.size)
  clear hb4
  go_wp2_with fail
  refine (newcol_any a4 a1 a2 a5 _).mono ?_
  rintro e v5 ⟨rfl, hb5⟩
  have HB5 : Hid (Below v1.heap.size v1 v5) := HB4.out.trans (hb5.mono HB4.out.size)
  clear hb5
  go_wp2_with fail
  refine (zzdeclared_any a4 a1 a2 a5 _ h1').mono ?_
  rintro e v6 ⟨rfl, hb6⟩
  have HB6 : Hid (Below v1.heap.size v1 v6) := HB5.out.trans (hb6.mono HB5.out.size)
  clear hb6 HB3 HB4 HB5
  have hsz := size_declOf a1 a2 h1'
  cases a2
  · have hcut : (declOf a1 false).extract 0 ((declOf a1 false).size - 9) = a1 := cut_append a1 sNotNull 9 rfl
    have hends : Ends (declOf a1 false) sNotNull := ends_append a1 sNotNull
    go_wp2_with fail
    refine (read_notnull (declOf a1 false) _ hsz hends).mono ?_
    rintro e v7 ⟨rfl, n7, rfl⟩
    rw [hcut]
    clear hcut hends
    go_wp2_with fail
    go_ret
    exact ⟨rfl, below_drewN HB6.out _⟩
  · have hcut : (declOf a1 true).extract 0 ((declOf a1 true).size - 5) = a1 := cut_append a1 sNull 5 rfl
    have hends : Ends (declOf a1 true) sNull := ends_append a1 sNull
    have hnot : ¬ Ends (declOf a1 true) sNotNull := fun h => HN.out (ends_not h)
    go_wp2_with fail
    refine (read_null (declOf a1 true) _ hsz hnot hends).mono ?_
    rintro e v7 ⟨rfl, n7, rfl⟩
    rw [hcut]
    clear hcut hends hnot
    go_wp2_with fail
    go_ret
    exact ⟨rfl, below_drewN HB6.out _⟩

/-! ### THE ROW's STEP: WRITTEN OUT: LEAVE IT -/
set_option maxRecDepth 100000 in
theorem lifted (os : Os) (started : os.Started) (H : Type) (enc : TypeId × Value → H) :
    ReturnsInHanded {} Try.checked os 3 .any (Rows.fnDeclaredReadsBackTypeAndNullabilitySpec.pre6 enc Try.prog Try.f3 Rows.fnDeclaredReadsBackTypeAndNullabilityRow.domain false) (Rows.fnDeclaredReadsBackTypeAndNullabilitySpec.post enc Try.prog Try.f3 false true false false) := by
  refine returnsInHanded_of_change (C := Try.checked) own started (by kernel_rfl) Try.func3
    (ChangeSpec.witness6 (enc := enc) (C := Try.checked) false ⟨#[], #[.string ByteArray.empty, .string ByteArray.empty, .bool false, .bool false, .string ByteArray.empty, .bool false], []⟩ 8 (by kernel_rfl) (by kernel_rfl) (by kernel_rfl) (by kernel_rfl)) ?_
  intro W base args ds gs before hval0 hW hcnd _
  have hval : ∀ (j : Nat) t v, Try.f3.params[j]? = some t → args[j]? = some v → Value.okWide Try.prog W .any base t v := hval0
  have hW' := hW
  obtain ⟨p, q, hA0, hV, rfl, hfz, hnd⟩ := hW
  have hA : DataW.TrodAll enc Try.prog W 0 (fun _ => true) true Try.f3.params.toList args.toList ds p := hA0
  rw [Try.params3] at hA hval
  obtain ⟨v0, vs0, d0, ds0, p0, q0, hargs, rfl, rfl, h0, r0⟩ := trodAll_cons hA
  obtain ⟨v1, vs1, d1, ds1, p1, q1, rfl, rfl, rfl, h1, r1⟩ := trodAll_cons r0
  obtain ⟨v2, vs2, d2, ds2, p2, q2, rfl, rfl, rfl, h2, r2⟩ := trodAll_cons r1
  obtain ⟨v3, vs3, d3, ds3, p3, q3, rfl, rfl, rfl, h3, r3⟩ := trodAll_cons r2
  obtain ⟨v4, vs4, d4, ds4, p4, q4, rfl, rfl, rfl, h4, r4⟩ := trodAll_cons r3
  obtain ⟨v5, vs5, d5, ds5, p5, q5, rfl, rfl, rfl, h5, r5⟩ := trodAll_cons r4
  obtain ⟨rfl, rfl, rfl⟩ := trodAll_nil r5
  obtain rfl : args = #[v0, v1, v2, v3, v4, v5] := by cases args; simp_all
  obtain ⟨rfl, rfl⟩ := trodVars_none hV
  obtain ⟨a0, rfl, rfl, rfl, w0⟩ := open_string Try.underlying9 (hval 0 9 v0 rfl rfl) h0
  obtain ⟨a1, rfl, rfl, rfl, w1⟩ := open_string Try.underlying9 (hval 1 9 v1 rfl rfl) h1
  obtain ⟨a2, rfl, rfl, rfl⟩ := open_bool Try.underlying4 (hval 2 4 v2 rfl rfl) h2
  obtain ⟨a3, rfl, rfl, rfl⟩ := open_bool Try.underlying4 (hval 3 4 v3 rfl rfl) h3
  obtain ⟨a4, rfl, rfl, rfl, w4⟩ := open_string Try.underlying9 (hval 4 9 v4 rfl rfl) h4
  obtain ⟨a5, rfl, rfl, rfl⟩ := open_bool Try.underlying4 (hval 5 4 v5 rfl rfl) h5
  clear hA0 hval0
  refine (walk a0 a1 a2 a3 a4 a5 w0 w1 w4 W).mono fun e W' ⟨he, bel⟩ => ?_
  subst he
  exact ⟨_, rfl, _, _, _, [], _, [], hW', trodAll_mk1 (shut_bool Try.underlying4 _), (trodAll_cons_mk (shut_string Try.underlying9 w0) (trodAll_cons_mk (shut_string Try.underlying9 w1) (trodAll_cons_mk (shut_bool Try.underlying4 _) (trodAll_cons_mk (shut_bool Try.underlying4 _) (trodAll_cons_mk (shut_string Try.underlying9 w4) (trodAll_cons_mk (shut_bool Try.underlying4 _) trodAll_mk0)))))), rfl, bel.frame _, fun h => by cases h⟩

theorem over : Rows.fnDeclaredReadsBackTypeAndNullabilityRow.holds Try.pinned (OpenSpec.ofChange Rows.fnDeclaredReadsBackTypeAndNullabilitySpec) :=
  OpenClaim.holds_of_wide 3 Try.f3 rfl rfl rfl rfl rfl rfl rfl ⟨rfl, rfl, rfl, rfl, rfl⟩ rfl rfl rfl rfl rfl (by kernel_rfl) Try.func3 (by kernel_rfl)
    (of_decide_eq_true (by kernel_rfl)) (by unfold Func.isWrapper; first | (rw [if_pos (by decide +kernel)]; kernel_rfl) | (rw [if_neg (by decide +kernel)]; exact ⟨rfl, rfl⟩))
    (fun os started H enc _ => lifted os started H enc)

/-- ████ THE STATEMENT ████ -/
theorem proved : Rows.FnDeclaredReadsBackTypeAndNullabilitySaid :=
  over
#print axioms proved
end Go.Proofs.Qxb6617795a.fnDeclaredReadsBackTypeAndNullability
