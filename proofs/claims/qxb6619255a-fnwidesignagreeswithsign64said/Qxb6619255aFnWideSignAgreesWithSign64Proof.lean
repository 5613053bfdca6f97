/-
  A PROOF OF 'Rows.FnWideSignAgreesWithSign64Said' ('example.com/spreadtally/spreadtally/zzlaws_decimal_b1.FnWideSignAgreesWithSign64'), WRITTEN BY PROGRAM (proof-skeleton.mjs) off the guide's own print for that function. Not trusted: Lean checks it.
  The walk and the plain laws are filled in; all else is the guide's template at this function's number and types.
-/
import Derived.Test.Qxb6619255aRows
import Derived.Test.Qxb6619255aSigns
import Derived.WalkKit
import Derived.ProofKit
import Derived.OpenShut
import Derived.ShutString
namespace Go.Proofs.Qxb6619255a.fnWideSignAgreesWithSign64
open Go.ChangeShapes Go.WideShapes Go.ChangeAt Go.RowKit
open Go.ChangeMaps (open_string shut_string)
set_option linter.unusedVariables false      -- a walk need not use every 'w<i>' (that an integer argument fits its kind)

theorem own : ownKnob Try.prog.godebug = none := by kernel_rfl

/-! ### THE PLAIN LAWS -/
theorem wsgn_neg (hi lo : Int) : wsgn hi lo true = -1 := by simp [wsgn]
theorem wsgn_zero : wsgn 0 0 false = 0 := by simp [wsgn]
theorem wsgn_lo (hi lo : Int) (h : ¬ lo = 0) : wsgn hi lo false = 1 := by simp [wsgn, h]
theorem wsgn_hi (hi lo : Int) (h : ¬ hi = 0) : wsgn hi lo false = 1 := by simp [wsgn, h]
theorem word_of_wf {x : Int} (h : (Lit.int .u64 x).wf = true) : 0 ≤ x ∧ x < 18446744073709551616 := by
  simp [Lit.wf, IntKind.min, IntKind.max, IntKind.signed, IntKind.bits] at h
  exact ⟨by omega, by omega⟩
theorem sgn_edge : sgn (wrap64 (-wrap64 9223372036854775808)) = -1 := by
  apply sgn_neg; unfold wrap64; omega

/-! ### STEP 1: THE WALK, A THEOREM A WAY -/
theorem at_nought_neg (w : World) :
    Calls Try.prog 6 #[.int .u64 0, .int .u64 0, .bool true] w fun e w' => e = .returned (.bool true) ∧ Grown w w' := by
  go_enter Try.func6, Try.ntmps6
  go_wp2
  go_ret
  exact ⟨rfl, Grown.refl _⟩
theorem at_nought (w : World) :
    Calls Try.prog 6 #[.int .u64 0, .int .u64 0, .bool false] w fun e w' => e = .returned (.bool true) ∧ Grown w w' := by
  go_enter Try.func6, Try.ntmps6
  go_wp2_with fail
  refine (zzwsign_is (0) 0 0 false wsgn_zero _).mono ?_
  rintro e x1 ⟨rfl, hg1⟩
  go_wp2_with fail
  refine (zzsign64_is (0) 0 sgn_zero _).mono ?_
  rintro e y2 ⟨rfl, rfl⟩
  go_wp2_with fail
  go_ret
  exact ⟨rfl, hg1⟩
theorem at_hi_neg (a0 a1 : Int) (z1 : ¬ a0 = 0) (w : World) :
    Calls Try.prog 6 #[.int .u64 a0, .int .u64 a1, .bool true] w fun e w' => e = .returned (.bool true) ∧ Grown w w' := by
  have q0 : (a0 == 0) = false := beq_eq_false_iff_ne.2 z1
  go_enter Try.func6, Try.ntmps6
  go_wp2_with fail
  refine (zzwsign_is (-1) a0 a1 true (wsgn_neg a0 a1) _).mono ?_
  rintro e x1 ⟨rfl, hg1⟩
  go_wp2_with fail
  refine (zzwsign_is (-1) a0 0 true (wsgn_neg a0 0) _).mono ?_
  rintro e x2 ⟨rfl, hg2⟩
  go_wp2_with fail
  go_ret
  exact ⟨rfl, grown_trans hg1 hg2⟩
theorem at_small_neg (a1 : Int) (b0 : 0 ≤ a1) (z2 : ¬ a1 = 0) (c1 : a1 < 9223372036854775808) (w : World) :
    Calls Try.prog 6 #[.int .u64 0, .int .u64 a1, .bool true] w fun e w' => e = .returned (.bool true) ∧ Grown w w' := by
  have q1 : (a1 == 0) = false := beq_eq_false_iff_ne.2 z2
  have d1 : decide (a1 < 9223372036854775808) = true := decide_eq_true c1
  go_enter Try.func6, Try.ntmps6
  go_wp2_with fail
  refine (zzwsign_is (-1) 0 a1 true (wsgn_neg 0 a1) _).mono ?_
  rintro e x1 ⟨rfl, hg1⟩
  go_wp2_with fail
  refine (zzsign64_is (-1) (-a1) (sgn_neg _ (by omega)) _).mono ?_
  rintro e y2 ⟨rfl, rfl⟩
  go_wp2_with fail
  go_ret
  exact ⟨rfl, hg1⟩
theorem at_big_neg (a1 : Int) (b1 : a1 < 18446744073709551616) (z2 : ¬ a1 = 0) (c1 : ¬ a1 < 9223372036854775808) (c2 : ¬ a1 = 9223372036854775808) (w : World) :
    Calls Try.prog 6 #[.int .u64 0, .int .u64 a1, .bool true] w fun e w' => e = .returned (.bool true) ∧ Grown w w' := by
  have q1 : (a1 == 0) = false := beq_eq_false_iff_ne.2 z2
  have d1 : decide (a1 < 9223372036854775808) = false := decide_eq_false c1
  have d2 : (a1 == 9223372036854775808) = false := beq_eq_false_iff_ne.2 c2
  go_enter Try.func6, Try.ntmps6
  go_wp2_with fail
  refine (zzwsign_is (-1) 0 a1 true (wsgn_neg 0 a1) _).mono ?_
  rintro e x1 ⟨rfl, hg1⟩
  go_wp2_with fail
  refine (zzwsign_is (-1) 0 (a1 / 2) true (wsgn_neg 0 (a1 / 2)) _).mono ?_
  rintro e x2 ⟨rfl, hg2⟩
  go_wp2_with fail
  refine (zzsign64_is (-1) (-(a1 / 2)) (sgn_neg _ (by omega)) _).mono ?_
  rintro e y2 ⟨rfl, rfl⟩
  go_wp2_with fail
  go_ret
  exact ⟨rfl, grown_trans hg1 hg2⟩
theorem at_hi_pos (a0 a1 : Int) (z1 : ¬ a0 = 0) (w : World) :
    Calls Try.prog 6 #[.int .u64 a0, .int .u64 a1, .bool false] w fun e w' => e = .returned (.bool true) ∧ Grown w w' := by
  have q0 : (a0 == 0) = false := beq_eq_false_iff_ne.2 z1
  go_enter Try.func6, Try.ntmps6
  go_wp2_with fail
  refine (zzwsign_is (1) a0 a1 false (wsgn_hi a0 a1 z1) _).mono ?_
  rintro e x1 ⟨rfl, hg1⟩
  go_wp2_with fail
  refine (zzwsign_is (1) a0 0 false (wsgn_hi a0 0 z1) _).mono ?_
  rintro e x2 ⟨rfl, hg2⟩
  go_wp2_with fail
  go_ret
  exact ⟨rfl, grown_trans hg1 hg2⟩
theorem at_small_pos (a1 : Int) (b0 : 0 ≤ a1) (z2 : ¬ a1 = 0) (c1 : a1 < 9223372036854775808) (w : World) :
    Calls Try.prog 6 #[.int .u64 0, .int .u64 a1, .bool false] w fun e w' => e = .returned (.bool true) ∧ Grown w w' := by
  have q1 : (a1 == 0) = false := beq_eq_false_iff_ne.2 z2
  have d1 : decide (a1 < 9223372036854775808) = true := decide_eq_true c1
  go_enter Try.func6, Try.ntmps6
  go_wp2_with fail
  refine (zzwsign_is (1) 0 a1 false (wsgn_lo 0 a1 z2) _).mono ?_
  rintro e x1 ⟨rfl, hg1⟩
  go_wp2_with fail
  refine (zzsign64_is (1) a1 (sgn_pos _ (by omega)) _).mono ?_
  rintro e y2 ⟨rfl, rfl⟩
  go_wp2_with fail
  go_ret
  exact ⟨rfl, hg1⟩
theorem at_big_pos (a1 : Int) (b1 : a1 < 18446744073709551616) (z2 : ¬ a1 = 0) (c1 : ¬ a1 < 9223372036854775808) (w : World) :
    Calls Try.prog 6 #[.int .u64 0, .int .u64 a1, .bool false] w fun e w' => e = .returned (.bool true) ∧ Grown w w' := by
  have q1 : (a1 == 0) = false := beq_eq_false_iff_ne.2 z2
  have d1 : decide (a1 < 9223372036854775808) = false := decide_eq_false c1
  go_enter Try.func6, Try.ntmps6
  go_wp2_with fail
  refine (zzwsign_is (1) 0 a1 false (wsgn_lo 0 a1 z2) _).mono ?_
  rintro e x1 ⟨rfl, hg1⟩
  go_wp2_with fail
  refine (zzwsign_is (1) 0 (a1 / 2) false (wsgn_lo 0 (a1 / 2) (by omega)) _).mono ?_
  rintro e x2 ⟨rfl, hg2⟩
  go_wp2_with fail
  refine (zzsign64_is (1) (a1 / 2) (sgn_pos _ (by omega)) _).mono ?_
  rintro e y2 ⟨rfl, rfl⟩
  go_wp2_with fail
  go_ret
  exact ⟨rfl, grown_trans hg1 hg2⟩
theorem at_edge (w : World) :
    Calls Try.prog 6 #[.int .u64 0, .int .u64 9223372036854775808, .bool true] w fun e w' => e = .returned (.bool true) ∧ Grown w w' := by
  go_enter Try.func6, Try.ntmps6
  go_wp2_with fail
  refine (zzwsign_is (-1) 0 9223372036854775808 true (wsgn_neg 0 9223372036854775808) _).mono ?_
  rintro e x1 ⟨rfl, hg1⟩
  go_wp2_with fail
  refine (zzsign64_is (-1) (wrap64 (-wrap64 9223372036854775808)) sgn_edge _).mono ?_
  rintro e y2 ⟨rfl, rfl⟩
  go_wp2_with fail
  go_ret
  exact ⟨rfl, hg1⟩
theorem walk (a0 : Int) (a1 : Int) (a2 : Bool) (w0 : (Lit.int .u64 a0).wf = true) (w1 : (Lit.int .u64 a1).wf = true) (w : World) :
    Calls Try.prog 6 #[.int .u64 a0, .int .u64 a1, .bool a2] w fun e w' => e = .returned (.bool true) ∧ Grown w w' := by
  obtain ⟨b0, b1⟩ := word_of_wf w1
  by_cases z1 : a0 = 0
  · subst z1
    by_cases z2 : a1 = 0
    · subst z2
      cases a2 with
      | true => exact at_nought_neg w
      | false => exact at_nought w
    · by_cases c1 : a1 < 9223372036854775808
      · cases a2 with
        | true => exact at_small_neg a1 b0 z2 c1 w
        | false => exact at_small_pos a1 b0 z2 c1 w
      · cases a2 with
        | true =>
          by_cases c2 : a1 = 9223372036854775808
          · subst c2
            exact at_edge w
          · exact at_big_neg a1 b1 z2 c1 c2 w
        | false => exact at_big_pos a1 b1 z2 c1 w
  · cases a2 with
    | true => exact at_hi_neg a0 a1 z1 w
    | false => exact at_hi_pos a0 a1 z1 w

/-! ### THE ROW's STEP: WRITTEN OUT: LEAVE IT -/
set_option maxRecDepth 100000 in
theorem lifted (os : Os) (started : os.Started) (H : Type) (enc : TypeId × Value → H) :
    ReturnsInHanded {} Try.checked os 6 .any (Rows.fnWideSignAgreesWithSign64Spec.pre6 enc Try.prog Try.f6 Rows.fnWideSignAgreesWithSign64Row.domain false) (Rows.fnWideSignAgreesWithSign64Spec.post enc Try.prog Try.f6 false true false false) := by
  refine returnsInHanded_of_change (C := Try.checked) own started (by kernel_rfl) Try.func6
    (ChangeSpec.witness6 (enc := enc) (C := Try.checked) false ⟨#[], #[.int .u64 0, .int .u64 0, .bool false], []⟩ 8 (by kernel_rfl) (by kernel_rfl) (by kernel_rfl) (by kernel_rfl)) ?_
  intro W base args ds gs before hval0 hW hcnd _
  have hval : ∀ (j : Nat) t v, Try.f6.params[j]? = some t → args[j]? = some v → Value.okWide Try.prog W .any base t v := hval0
  have hW' := hW
  obtain ⟨p, q, hA0, hV, rfl, hfz, hnd⟩ := hW
  have hA : DataW.TrodAll enc Try.prog W 0 (fun _ => true) true Try.f6.params.toList args.toList ds p := hA0
  rw [Try.params6] at hA hval
  obtain ⟨v0, vs0, d0, ds0, p0, q0, hargs, rfl, rfl, h0, r0⟩ := trodAll_cons hA
  obtain ⟨v1, vs1, d1, ds1, p1, q1, rfl, rfl, rfl, h1, r1⟩ := trodAll_cons r0
  obtain ⟨v2, vs2, d2, ds2, p2, q2, rfl, rfl, rfl, h2, r2⟩ := trodAll_cons r1
  obtain ⟨rfl, rfl, rfl⟩ := trodAll_nil r2
  obtain rfl : args = #[v0, v1, v2] := by cases args; simp_all
  obtain ⟨rfl, rfl⟩ := trodVars_none hV
  obtain ⟨a0, rfl, rfl, rfl, w0⟩ := open_int Try.underlying26 (hval 0 26 v0 rfl rfl) h0
  obtain ⟨a1, rfl, rfl, rfl, w1⟩ := open_int Try.underlying26 (hval 1 26 v1 rfl rfl) h1
  obtain ⟨a2, rfl, rfl, rfl⟩ := open_bool Try.underlying4 (hval 2 4 v2 rfl rfl) h2
  clear hA0 hval0
  simp only [List.append_nil] at hW'
  refine (walk a0 a1 a2 w0 w1 W).mono fun e W' ⟨he, hg⟩ => ?_
  subst he
  exact ⟨_, rfl, post_of_same (pa := []) (pv := []) hW' (fun _ _ _ => (trodAll_cons_mk (shut_bool Try.underlying4 _) trodAll_mk0)) (fun sp _ => (trodAll_cons_mk (shut_int Try.underlying26 w0) (trodAll_cons_mk (shut_int Try.underlying26 w1) (trodAll_cons_mk (shut_bool Try.underlying4 _) trodAll_mk0)))) (fun _ _ => rfl) rfl
    (hg.frame _) hg.2.1 (ok_one (by kernel_rfl) rfl (okWide_bool_mk Try.underlying4 _))⟩

theorem over : Rows.fnWideSignAgreesWithSign64Row.holds Try.pinned (OpenSpec.ofChange Rows.fnWideSignAgreesWithSign64Spec) :=
  OpenClaim.holds_of_wide 6 Try.f6 rfl rfl rfl rfl rfl rfl rfl ⟨rfl, rfl, rfl, rfl, rfl⟩ rfl rfl rfl rfl rfl (by kernel_rfl) Try.func6 (by kernel_rfl)
    (of_decide_eq_true (by kernel_rfl)) (by unfold Func.isWrapper; first | (rw [if_pos (by decide +kernel)]; kernel_rfl) | (rw [if_neg (by decide +kernel)]; exact ⟨rfl, rfl⟩))
    (fun os started H enc _ => lifted os started H enc)

/-- ████ THE STATEMENT ████ -/
theorem proved : Rows.FnWideSignAgreesWithSign64Said :=
  over
#print axioms proved
end Go.Proofs.Qxb6619255a.fnWideSignAgreesWithSign64
