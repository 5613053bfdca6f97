/-
  A PROOF OF 'Rows.FnWideSignNegationFlipsSaid' ('example.com/spreadtally/spreadtally/zzlaws_decimal_b1.FnWideSignNegationFlips'), WRITTEN BY PROGRAM (proof-skeleton.mjs) off the guide's own print for that function. Not trusted: Lean checks it.
  The walk and the plain laws are filled in; all else is the guide's template at this function's number and types.
-/
import Derived.Test.Qxb6619255aRows
import Derived.Test.Qxb6619255aSigns
import Derived.WalkKit
import Derived.ProofKit
import Derived.OpenShut
import Derived.ShutString
namespace Go.Proofs.Qxb6619255a.fnWideSignNegationFlips
open Go.ChangeShapes Go.WideShapes Go.ChangeAt Go.RowKit
open Go.ChangeMaps (open_string shut_string)
set_option linter.unusedVariables false      -- a walk need not use every 'w<i>' (that an integer argument fits its kind)

theorem own : ownKnob Try.prog.godebug = none := by kernel_rfl

/-! ### THE PLAIN LAWS, AND ONE CONTRACT MORE -/
theorem wsgn_neg (hi lo : Int) : wsgn hi lo true = -1 := by simp [wsgn]
theorem wsgn_zero : wsgn 0 0 false = 0 := by simp [wsgn]
theorem wsgn_lo (hi lo : Int) (h : ¬ lo = 0) : wsgn hi lo false = 1 := by simp [wsgn, h]
theorem wsgn_hi (hi lo : Int) (h : ¬ hi = 0) : wsgn hi lo false = 1 := by simp [wsgn, h]
theorem iswide_any (a0 a1 : Int) (a2 : Bool) (hz : a0 = 0 → a1 = 0 → a2 ≠ true) (w : World) :
    Calls Try.prog 13 #[.int .i64 (wsgn a0 a1 a2), .int .u64 a0, .int .u64 a1, .bool a2] w fun e w' => e = .returned (.bool true) ∧ w' = w := by
  by_cases z1 : a0 = 0
  · subst z1
    by_cases z2 : a1 = 0
    · subst z2
      cases a2 with
      | true =>
        exact absurd rfl (hz rfl rfl)
      | false =>
        rw [show wsgn 0 0 false = 0 from wsgn_zero]
        clear hz
        go_enter Try.func13, Try.ntmps13
        go_wp2
        go_ret
        exact ⟨rfl, rfl⟩
    · have q1 : (a1 == 0) = false := beq_eq_false_iff_ne.2 z2
      cases a2 with
      | true =>
        rw [show wsgn 0 a1 true = -1 from (wsgn_neg 0 a1)]
        clear hz
        go_enter Try.func13, Try.ntmps13
        go_wp2
        go_ret
        exact ⟨rfl, rfl⟩
      | false =>
        rw [show wsgn 0 a1 false = 1 from (wsgn_lo 0 a1 z2)]
        clear hz
        go_enter Try.func13, Try.ntmps13
        go_wp2
        go_ret
        exact ⟨rfl, rfl⟩
  · have q0 : (a0 == 0) = false := beq_eq_false_iff_ne.2 z1
    cases a2 with
    | true =>
      rw [show wsgn a0 a1 true = -1 from (wsgn_neg a0 a1)]
      clear hz
      go_enter Try.func13, Try.ntmps13
      go_wp2
      go_ret
      exact ⟨rfl, rfl⟩
    | false =>
      rw [show wsgn a0 a1 false = 1 from (wsgn_hi a0 a1 z1)]
      clear hz
      go_enter Try.func13, Try.ntmps13
      go_wp2
      go_ret
      exact ⟨rfl, rfl⟩

/-! ### STEP 1: THE WALK -/
theorem walk (a0 : Int) (a1 : Int) (a2 : Bool) (w0 : (Lit.int .u64 a0).wf = true) (w1 : (Lit.int .u64 a1).wf = true) (w : World) :
    Calls Try.prog 5 #[.int .u64 a0, .int .u64 a1, .bool a2] w fun e w' => e = .returned (.bool true) ∧ Grown w w' := by
  clear w0 w1
  by_cases z1 : a0 = 0
  · subst z1
    by_cases z2 : a1 = 0
    · subst z2
      cases a2 with
      | true =>
        go_enter Try.func5, Try.ntmps5
        go_wp2
        go_ret
        exact ⟨rfl, Grown.refl _⟩
      | false =>
        have IW : Hid _ := iswide_any 0 0 false (fun _ _ h => absurd h (by decide))
        have V1 : Hid _ := wsgn_zero
        go_enter Try.func5, Try.ntmps5
        go_wp2_with fail
        refine (zzwsign_any 0 0 false _).mono ?_
        rintro e x1 ⟨rfl, hg1⟩
        go_wp2_with fail
        refine (IW.out _).mono ?_
        rintro e x2 ⟨rfl, rfl⟩
        rw [V1.out]
        go_wp2_with fail
        go_ret
        exact ⟨rfl, hg1⟩
    · have q1 : (a1 == 0) = false := beq_eq_false_iff_ne.2 z2
      cases a2 with
      | true =>
        have IW : Hid _ := iswide_any 0 a1 true (fun _ h _ => z2 h)
        have V1 : Hid _ := (wsgn_neg 0 a1)
        have V2 : Hid _ := (wsgn_lo 0 a1 z2)
        have V3 : Hid _ := (wsgn_neg 0 1)
        go_enter Try.func5, Try.ntmps5
        go_wp2_with fail
        refine (zzwsign_any 0 a1 true _).mono ?_
        rintro e x1 ⟨rfl, hg1⟩
        go_wp2_with fail
        refine (IW.out _).mono ?_
        rintro e x2 ⟨rfl, rfl⟩
        rw [V1.out]
        go_wp2_with fail
        refine (zzwsign_is (1) 0 a1 false V2.out _).mono ?_
        rintro e x3 ⟨rfl, hg3⟩
        go_wp2_with fail
        refine (zzwsign_is (-1) 0 1 true V3.out _).mono ?_
        rintro e x4 ⟨rfl, hg4⟩
        go_wp2_with fail
        go_ret
        exact ⟨rfl, grown_trans hg1 (grown_trans hg3 hg4)⟩
      | false =>
        have IW : Hid _ := iswide_any 0 a1 false (fun _ _ h => absurd h (by decide))
        have V1 : Hid _ := (wsgn_lo 0 a1 z2)
        have V2 : Hid _ := (wsgn_neg 0 a1)
        have V3 : Hid _ := (wsgn_lo 0 1 (by decide))
        go_enter Try.func5, Try.ntmps5
        go_wp2_with fail
        refine (zzwsign_any 0 a1 false _).mono ?_
        rintro e x1 ⟨rfl, hg1⟩
        go_wp2_with fail
        refine (IW.out _).mono ?_
        rintro e x2 ⟨rfl, rfl⟩
        rw [V1.out]
        go_wp2_with fail
        refine (zzwsign_is (-1) 0 a1 true V2.out _).mono ?_
        rintro e x3 ⟨rfl, hg3⟩
        go_wp2_with fail
        refine (zzwsign_is (1) 0 1 false V3.out _).mono ?_
        rintro e x4 ⟨rfl, hg4⟩
        go_wp2_with fail
        go_ret
        exact ⟨rfl, grown_trans hg1 (grown_trans hg3 hg4)⟩
  · have q0 : (a0 == 0) = false := beq_eq_false_iff_ne.2 z1
    cases a2 with
    | true =>
      have IW : Hid _ := iswide_any a0 a1 true (fun h _ _ => z1 h)
      have V1 : Hid _ := (wsgn_neg a0 a1)
      have V2 : Hid _ := (wsgn_hi a0 a1 z1)
      have V3 : Hid _ := (wsgn_neg 0 1)
      go_enter Try.func5, Try.ntmps5
      go_wp2_with fail
      refine (zzwsign_any a0 a1 true _).mono ?_
      rintro e x1 ⟨rfl, hg1⟩
      go_wp2_with fail
      refine (IW.out _).mono ?_
      rintro e x2 ⟨rfl, rfl⟩
      rw [V1.out]
      go_wp2_with fail
      refine (zzwsign_is (1) a0 a1 false V2.out _).mono ?_
      rintro e x3 ⟨rfl, hg3⟩
      go_wp2_with fail
      refine (zzwsign_is (-1) 0 1 true V3.out _).mono ?_
      rintro e x4 ⟨rfl, hg4⟩
      go_wp2_with fail
      go_ret
      exact ⟨rfl, grown_trans hg1 (grown_trans hg3 hg4)⟩
    | false =>
      have IW : Hid _ := iswide_any a0 a1 false (fun _ _ h => absurd h (by decide))
      have V1 : Hid _ := (wsgn_hi a0 a1 z1)
      have V2 : Hid _ := (wsgn_neg a0 a1)
      have V3 : Hid _ := (wsgn_lo 0 1 (by decide))
      go_enter Try.func5, Try.ntmps5
      go_wp2_with fail
      refine (zzwsign_any a0 a1 false _).mono ?_
      rintro e x1 ⟨rfl, hg1⟩
      go_wp2_with fail
      refine (IW.out _).mono ?_
      rintro e x2 ⟨rfl, rfl⟩
      rw [V1.out]
      go_wp2_with fail
      refine (zzwsign_is (-1) a0 a1 true V2.out _).mono ?_
      rintro e x3 ⟨rfl, hg3⟩
      go_wp2_with fail
      refine (zzwsign_is (1) 0 1 false V3.out _).mono ?_
      rintro e x4 ⟨rfl, hg4⟩
      go_wp2_with fail
      go_ret
      exact ⟨rfl, grown_trans hg1 (grown_trans hg3 hg4)⟩

/-! ### THE ROW's STEP: WRITTEN OUT: LEAVE IT -/
set_option maxRecDepth 100000 in
theorem lifted (os : Os) (started : os.Started) (H : Type) (enc : TypeId × Value → H) :
    ReturnsInHanded {} Try.checked os 5 .any (Rows.fnWideSignNegationFlipsSpec.pre6 enc Try.prog Try.f5 Rows.fnWideSignNegationFlipsRow.domain false) (Rows.fnWideSignNegationFlipsSpec.post enc Try.prog Try.f5 false true false false) := by
  refine returnsInHanded_of_change (C := Try.checked) own started (by kernel_rfl) Try.func5
    (ChangeSpec.witness6 (enc := enc) (C := Try.checked) false ⟨#[], #[.int .u64 0, .int .u64 0, .bool false], []⟩ 8 (by kernel_rfl) (by kernel_rfl) (by kernel_rfl) (by kernel_rfl)) ?_
  intro W base args ds gs before hval0 hW hcnd _
  have hval : ∀ (j : Nat) t v, Try.f5.params[j]? = some t → args[j]? = some v → Value.okWide Try.prog W .any base t v := hval0
  have hW' := hW
  obtain ⟨p, q, hA0, hV, rfl, hfz, hnd⟩ := hW
  have hA : DataW.TrodAll enc Try.prog W 0 (fun _ => true) true Try.f5.params.toList args.toList ds p := hA0
  rw [Try.params5] at hA hval
  obtain ⟨v0, vs0, d0, ds0, p0, q0, hargs, rfl, rfl, h0, r0⟩ := trodAll_cons hA
  obtain ⟨v1, vs1, d1, ds1, p1, q1, rfl, rfl, rfl, h1, r1⟩ := trodAll_cons r0
  obtain ⟨v2, vs2, d2, ds2, p2, q2, rfl, rfl, rfl, h2, r2⟩ := trodAll_cons r1
  obtain ⟨rfl, rfl, rfl⟩ := trodAll_nil r2
  obtain rfl : args = #[v0, v1, v2] := by cases args; simp_all
  obtain ⟨rfl, rfl⟩ := trodVars_none hV
  obtain ⟨a0, rfl, rfl, rfl, w0⟩ := open_int Try.underlying26 (hval 0 26 v0 rfl rfl) h0
  obtain ⟨a1, rfl, rfl, rfl, w1⟩ := open_int Try.underlying26 (hval 1 26 v1 rfl rfl) h1
  obtain ⟨a2, rfl, rfl, rfl⟩ := open_bool Try.underlying4 (hval 2 4 v2 rfl rfl) h2
  clear hA0 hval0
  simp only [List.append_nil] at hW'
  refine (walk a0 a1 a2 w0 w1 W).mono fun e W' ⟨he, hg⟩ => ?_
  subst he
  exact ⟨_, rfl, post_of_same (pa := []) (pv := []) hW' (fun _ _ _ => (trodAll_cons_mk (shut_bool Try.underlying4 _) trodAll_mk0)) (fun sp _ => (trodAll_cons_mk (shut_int Try.underlying26 w0) (trodAll_cons_mk (shut_int Try.underlying26 w1) (trodAll_cons_mk (shut_bool Try.underlying4 _) trodAll_mk0)))) (fun _ _ => rfl) rfl
    (hg.frame _) hg.2.1 (ok_one (by kernel_rfl) rfl (okWide_bool_mk Try.underlying4 _))⟩

theorem over : Rows.fnWideSignNegationFlipsRow.holds Try.pinned (OpenSpec.ofChange Rows.fnWideSignNegationFlipsSpec) :=
  OpenClaim.holds_of_wide 5 Try.f5 rfl rfl rfl rfl rfl rfl rfl ⟨rfl, rfl, rfl, rfl, rfl⟩ rfl rfl rfl rfl rfl (by kernel_rfl) Try.func5 (by kernel_rfl)
    (of_decide_eq_true (by kernel_rfl)) (by unfold Func.isWrapper; first | (rw [if_pos (by decide +kernel)]; kernel_rfl) | (rw [if_neg (by decide +kernel)]; exact ⟨rfl, rfl⟩))
    (fun os started H enc _ => lifted os started H enc)

/-- ████ THE STATEMENT ████ -/
theorem proved : Rows.FnWideSignNegationFlipsSaid :=
  over
#print axioms proved
end Go.Proofs.Qxb6619255a.fnWideSignNegationFlips
