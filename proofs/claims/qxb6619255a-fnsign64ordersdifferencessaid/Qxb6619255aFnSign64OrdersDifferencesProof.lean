/-
  A PROOF OF 'Rows.FnSign64OrdersDifferencesSaid' ('example.com/spreadtally/spreadtally/zzlaws_decimal_b1.FnSign64OrdersDifferences'), WRITTEN BY PROGRAM (proof-skeleton.mjs) off the guide's own print for that function. Not trusted: Lean checks it.
  The walk and the plain laws are filled in; all else is the guide's template at this function's number and types.
-/
import Derived.Test.Qxb6619255aRows
import Derived.Test.Qxb6619255aSigns
import Derived.WalkKit
import Derived.ProofKit
import Derived.OpenShut
import Derived.ShutString
namespace Go.Proofs.Qxb6619255a.fnSign64OrdersDifferences
open Go.ChangeShapes Go.WideShapes Go.ChangeAt Go.RowKit
open Go.ChangeMaps (open_string shut_string)
set_option linter.unusedVariables false      -- a walk need not use every 'w<i>' (that an integer argument fits its kind)

theorem own : ownKnob Try.prog.godebug = none := by kernel_rfl

/-! ### THE PLAIN LAWS -/
theorem i64_of_wf {x : Int} (h : (Lit.int .i64 x).wf = true) : I64 x := by
  simp [Lit.wf, IntKind.min, IntKind.max, IntKind.signed, IntKind.bits] at h
  exact ⟨by omega, by omega⟩
theorem sgn_flip (a b : Int) : sgn (b - a) = - sgn (a - b) := by
  rcases Int.lt_trichotomy a b with h | rfl | h
  · rw [sgn_neg (a - b) (by omega), sgn_pos (b - a) (by omega)]; rfl
  · rw [Int.sub_self, sgn_zero]; rfl
  · rw [sgn_pos (a - b) (by omega), sgn_neg (b - a) (by omega)]
theorem sgn_bd (a : Int) : -1 ≤ sgn a ∧ sgn a ≤ 1 := by
  unfold sgn; split
  · omega
  · split <;> omega

/-! ### STEP 1: THE WALK -/
theorem walk (a0 : Int) (a1 : Int) (w0 : (Lit.int .i64 a0).wf = true) (w1 : (Lit.int .i64 a1).wf = true) (w : World) :
    Calls Try.prog 4 #[.int .i64 a0, .int .i64 a1] w fun e w' => e = .returned (.bool true) ∧ Grown w w' := by
  have I0 := i64_of_wf w0; have I1 := i64_of_wf w1
  clear w0 w1
  go_enter Try.func4, Try.ntmps4
  go_wp2_with fail
  refine (zzsub_any a0 a1 I0 I1 _).mono ?_
  rintro e w' ⟨c, hc, rfl, rfl⟩
  cases c with
  | true =>
    clear hc
    go_wp2_with fail
    go_ret
    exact ⟨rfl, Grown.refl _⟩
  | false =>
    have F1 : Hid _ := hc rfl
    clear hc
    go_wp2_with fail
    refine (zzsub_any a1 a0 I1 I0 _).mono ?_
    rintro e x0 ⟨c, hc, rfl, rfl⟩
    cases c with
    | true =>
      clear hc
      go_wp2_with fail
      go_ret
      exact ⟨rfl, Grown.refl _⟩
    | false =>
      have F2 : Hid _ := hc rfl
      clear hc
      have E1 : Hid (sgn (wrap64 (a0 - a1)) = sgn (a0 - a1)) := by show sgn _ = _; rw [wrap64_of _ F1.out]
      have E2 : Hid (sgn (wrap64 (a1 - a0)) = - sgn (a0 - a1)) := by show sgn _ = _; rw [wrap64_of _ F2.out, sgn_flip]
      have B := sgn_bd (a0 - a1)
      go_wp2_with fail
      refine (zzsign64_is _ (wrap64 (a0 - a1)) E1.out _).mono ?_
      rintro e x1 ⟨rfl, rfl⟩
      go_wp2_with fail
      refine (zzsign64_is _ (wrap64 (a1 - a0)) E2.out _).mono ?_
      rintro e x2 ⟨rfl, rfl⟩
      go_wp2_with fail
      refine (zzcompare_any a0 a1 _).mono ?_
      rintro e x3 ⟨rfl, rfl⟩
      generalize sgn (a0 - a1) = s at *
      go_wp2_with fail
      go_ret
      exact ⟨rfl, Grown.refl _⟩

/-! ### THE ROW's STEP: WRITTEN OUT: LEAVE IT -/
set_option maxRecDepth 100000 in
theorem lifted (os : Os) (started : os.Started) (H : Type) (enc : TypeId × Value → H) :
    ReturnsInHanded {} Try.checked os 4 .any (Rows.fnSign64OrdersDifferencesSpec.pre6 enc Try.prog Try.f4 Rows.fnSign64OrdersDifferencesRow.domain false) (Rows.fnSign64OrdersDifferencesSpec.post enc Try.prog Try.f4 false true false false) := by
  refine returnsInHanded_of_change (C := Try.checked) own started (by kernel_rfl) Try.func4
    (ChangeSpec.witness6 (enc := enc) (C := Try.checked) false ⟨#[], #[.int .i64 0, .int .i64 0], []⟩ 8 (by kernel_rfl) (by kernel_rfl) (by kernel_rfl) (by kernel_rfl)) ?_
  intro W base args ds gs before hval0 hW hcnd _
  have hval : ∀ (j : Nat) t v, Try.f4.params[j]? = some t → args[j]? = some v → Value.okWide Try.prog W .any base t v := hval0
  have hW' := hW
  obtain ⟨p, q, hA0, hV, rfl, hfz, hnd⟩ := hW
  have hA : DataW.TrodAll enc Try.prog W 0 (fun _ => true) true Try.f4.params.toList args.toList ds p := hA0
  rw [Try.params4] at hA hval
  obtain ⟨v0, vs0, d0, ds0, p0, q0, hargs, rfl, rfl, h0, r0⟩ := trodAll_cons hA
  obtain ⟨v1, vs1, d1, ds1, p1, q1, rfl, rfl, rfl, h1, r1⟩ := trodAll_cons r0
  obtain ⟨rfl, rfl, rfl⟩ := trodAll_nil r1
  obtain rfl : args = #[v0, v1] := by cases args; simp_all
  obtain ⟨rfl, rfl⟩ := trodVars_none hV
  obtain ⟨a0, rfl, rfl, rfl, w0⟩ := open_int Try.underlying2 (hval 0 2 v0 rfl rfl) h0
  obtain ⟨a1, rfl, rfl, rfl, w1⟩ := open_int Try.underlying2 (hval 1 2 v1 rfl rfl) h1
  clear hA0 hval0
  simp only [List.append_nil] at hW'
  refine (walk a0 a1 w0 w1 W).mono fun e W' ⟨he, hg⟩ => ?_
  subst he
  exact ⟨_, rfl, post_of_same (pa := []) (pv := []) hW' (fun _ _ _ => (trodAll_cons_mk (shut_bool Try.underlying4 _) trodAll_mk0)) (fun sp _ => (trodAll_cons_mk (shut_int Try.underlying2 w0) (trodAll_cons_mk (shut_int Try.underlying2 w1) trodAll_mk0))) (fun _ _ => rfl) rfl
    (hg.frame _) hg.2.1 (ok_one (by kernel_rfl) rfl (okWide_bool_mk Try.underlying4 _))⟩

theorem over : Rows.fnSign64OrdersDifferencesRow.holds Try.pinned (OpenSpec.ofChange Rows.fnSign64OrdersDifferencesSpec) :=
  OpenClaim.holds_of_wide 4 Try.f4 rfl rfl rfl rfl rfl rfl rfl ⟨rfl, rfl, rfl, rfl, rfl⟩ rfl rfl rfl rfl rfl (by kernel_rfl) Try.func4 (by kernel_rfl)
    (of_decide_eq_true (by kernel_rfl)) (by unfold Func.isWrapper; first | (rw [if_pos (by decide +kernel)]; kernel_rfl) | (rw [if_neg (by decide +kernel)]; exact ⟨rfl, rfl⟩))
    (fun os started H enc _ => lifted os started H enc)

/-- ████ THE STATEMENT ████ -/
theorem proved : Rows.FnSign64OrdersDifferencesSaid :=
  over
#print axioms proved
end Go.Proofs.Qxb6619255a.fnSign64OrdersDifferences
