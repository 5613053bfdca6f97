/-
  A PROOF OF 'Rows.FnPlusIsSaturated128SumSaid' ('example.com/dial3/dial3/zzlaws_internal_sim_b1.FnPlusIsSaturated128Sum'), WRITTEN BY PROGRAM (proof-skeleton.mjs) off the guide's own print for that function. Not trusted: Lean checks it.
  The walk and the plain laws are filled in; all else is the guide's template at this function's number and types.
-/
import Derived.Test.Qxb6619247aRows
import Derived.Test.Qxb6619247aPlus
import Derived.WalkKit
import Derived.ProofKit
import Derived.OpenShut
import Derived.ShutString
namespace Go.Proofs.Qxb6619247a.fnPlusIsSaturated128Sum
open Go.ChangeShapes Go.WideShapes Go.ChangeAt Go.RowKit
open Go.ChangeMaps (open_string shut_string)
set_option linter.unusedVariables false      -- a walk need not use every 'w<i>' (that an integer argument fits its kind)

theorem own : ownKnob Try.prog.godebug = none := by kernel_rfl

/-! ### THE PLAIN LAWS -/
theorem comm_w (pw pf qw qf : Int) : plusW qw qf pw pf = plusW pw pf qw qf := by
  unfold plusW; rw [Int.add_comm qw pw, Int.add_comm qf pf]
theorem comm_f (pw pf qw qf : Int) : plusF qw qf pw pf = plusF pw pf qw qf := by
  unfold plusF; rw [Int.add_comm qw pw, Int.add_comm qf pf]
theorem past_w (pw pf qw qf : Int) (h1 : Word pw) (h2 : Word pf) (h3 : Word qw) (h4 : Word qf) (h : lessB (subW 18446744073709551615 18446744073709551615 qw qf) (subF 18446744073709551615 qf) pw pf = true) : plusW pw pf qw qf = 18446744073709551615 := by
  obtain ⟨_, _⟩ := h1; obtain ⟨_, _⟩ := h2; obtain ⟨_, _⟩ := h3; obtain ⟨_, _⟩ := h4
  unfold lessB subW subF at h
  rw [decide_eq_true_eq, if_neg (by omega)] at h
  unfold plusW; split <;> omega
theorem past_f (pw pf qw qf : Int) (h1 : Word pw) (h2 : Word pf) (h3 : Word qw) (h4 : Word qf) (h : lessB (subW 18446744073709551615 18446744073709551615 qw qf) (subF 18446744073709551615 qf) pw pf = true) : plusF pw pf qw qf = 18446744073709551615 := by
  obtain ⟨_, _⟩ := h1; obtain ⟨_, _⟩ := h2; obtain ⟨_, _⟩ := h3; obtain ⟨_, _⟩ := h4
  unfold lessB subW subF at h
  rw [decide_eq_true_eq, if_neg (by omega)] at h
  unfold plusF; split <;> omega
theorem fits (pw pf qw qf : Int) (h1 : Word pw) (h2 : Word pf) (h3 : Word qw) (h4 : Word qf) (h : lessB (subW 18446744073709551615 18446744073709551615 qw qf) (subF 18446744073709551615 qf) pw pf = false) : pw + qw + (pf + qf) / 18446744073709551616 < 18446744073709551616 := by
  obtain ⟨_, _⟩ := h1; obtain ⟨_, _⟩ := h2; obtain ⟨_, _⟩ := h3; obtain ⟨_, _⟩ := h4
  unfold lessB subW subF at h
  rw [decide_eq_false_iff_not, if_neg (by omega)] at h
  omega
theorem notless (pw pf qw qf : Int) (h1 : Word pw) (h2 : Word pf) (h3 : Word qw) (h4 : Word qf) (h : pw + qw + (pf + qf) / 18446744073709551616 < 18446744073709551616) : lessB (plusW pw pf qw qf) (plusF pw pf qw qf) qw qf = false := by
  obtain ⟨_, _⟩ := h1; obtain ⟨_, _⟩ := h2; obtain ⟨_, _⟩ := h3; obtain ⟨_, _⟩ := h4
  unfold lessB plusW plusF
  rw [decide_eq_false_iff_not, if_pos h, if_pos h]
  omega
theorem back_w (pw pf qw qf : Int) (h1 : Word pw) (h2 : Word pf) (h3 : Word qw) (h4 : Word qf) (h : pw + qw + (pf + qf) / 18446744073709551616 < 18446744073709551616) : subW (plusW pw pf qw qf) (plusF pw pf qw qf) qw qf = pw := by
  obtain ⟨_, _⟩ := h1; obtain ⟨_, _⟩ := h2; obtain ⟨_, _⟩ := h3; obtain ⟨_, _⟩ := h4
  unfold subW plusW plusF
  rw [if_pos h, if_pos h]
  split <;> omega
theorem back_f (pw pf qw qf : Int) (h1 : Word pw) (h2 : Word pf) (h3 : Word qw) (h4 : Word qf) (h : pw + qw + (pf + qf) / 18446744073709551616 < 18446744073709551616) : subF (plusF pw pf qw qf) qf = pf := by
  obtain ⟨_, _⟩ := h1; obtain ⟨_, _⟩ := h2; obtain ⟨_, _⟩ := h3; obtain ⟨_, _⟩ := h4
  unfold subF plusF
  rw [if_pos h]
  omega

/-! ### STEP 1: THE WALK -/
theorem walk (a0 : Int) (a1 : Int) (a2 : Int) (a3 : Int) (w0 : (Lit.int .u64 a0).wf = true) (w1 : (Lit.int .u64 a1).wf = true) (w2 : (Lit.int .u64 a2).wf = true) (w3 : (Lit.int .u64 a3).wf = true) (w : World) :
    Calls Try.prog 3 #[.int .u64 a0, .int .u64 a1, .int .u64 a2, .int .u64 a3] w fun e w' => e = .returned (.bool true) ∧ Grown w w' := by
  have W0 := word_of_wf w0; have W1 := word_of_wf w1; have W2 := word_of_wf w2; have W3 := word_of_wf w3
  clear w0 w1 w2 w3
  have WS := word_subW 18446744073709551615 18446744073709551615 a2 a3
  have WT := word_subF 18446744073709551615 a3
  have Wx := word_plusW a0 a1 a2 a3 W0 W1 W2 W3
  have Wy := word_plusF a0 a1 a2 a3
  have C1 : Hid (plusW a2 a3 a0 a1 = plusW a0 a1 a2 a3) := comm_w a0 a1 a2 a3
  have C2 : Hid (plusF a2 a3 a0 a1 = plusF a0 a1 a2 a3) := comm_f a0 a1 a2 a3
  cases hl : lessB (subW 18446744073709551615 18446744073709551615 a2 a3) (subF 18446744073709551615 a3) a0 a1 with
  | true =>
    have P1 : Hid (plusW a0 a1 a2 a3 = 18446744073709551615) := past_w a0 a1 a2 a3 W0 W1 W2 W3 hl
    have P2 : Hid (plusF a0 a1 a2 a3 = 18446744073709551615) := past_f a0 a1 a2 a3 W0 W1 W2 W3 hl
    have HL : Hid (lessB (subW 18446744073709551615 18446744073709551615 a2 a3) (subF 18446744073709551615 a3) a0 a1 = true) := hl
    clear hl
    go_enter Try.func3, Try.ntmps3
    go_wp2_with fail
    refine (zzplus_is 18446744073709551615 18446744073709551615 a0 a1 a2 a3 W0 W1 W2 W3 P1.out P2.out _).mono ?_
    rintro e x1 ⟨rfl, hg1⟩
    go_wp2_with fail
    refine (zzplus_is 18446744073709551615 18446744073709551615 a2 a3 a0 a1 W2 W3 W0 W1 (C1.out.trans P1.out) (C2.out.trans P2.out) _).mono ?_
    rintro e x2 ⟨rfl, hg2⟩
    go_wp2_with fail
    refine (zzsub_any 18446744073709551615 18446744073709551615 a2 a3 word_max word_max W2 W3 _).mono ?_
    rintro e x3 ⟨rfl, rfl⟩
    generalize subW 18446744073709551615 18446744073709551615 a2 a3 = sw at *
    generalize subF 18446744073709551615 a3 = sf at *
    go_wp2_with fail
    refine (zzless_is true sw sf a0 a1 HL.out _).mono ?_
    rintro e x4 ⟨rfl, rfl⟩
    go_wp2_with fail
    go_ret
    exact ⟨rfl, grown_trans hg1 hg2⟩
  | false =>
    have F := fits a0 a1 a2 a3 W0 W1 W2 W3 hl
    have N1 : Hid (lessB (plusW a0 a1 a2 a3) (plusF a0 a1 a2 a3) a2 a3 = false) := notless a0 a1 a2 a3 W0 W1 W2 W3 F
    have B1 : Hid (subW (plusW a0 a1 a2 a3) (plusF a0 a1 a2 a3) a2 a3 = a0) := back_w a0 a1 a2 a3 W0 W1 W2 W3 F
    have B2 : Hid (subF (plusF a0 a1 a2 a3) a3 = a1) := back_f a0 a1 a2 a3 W0 W1 W2 W3 F
    have HL : Hid (lessB (subW 18446744073709551615 18446744073709551615 a2 a3) (subF 18446744073709551615 a3) a0 a1 = false) := hl
    clear hl F
    go_enter Try.func3, Try.ntmps3
    go_wp2_with fail
    refine (zzplus_any a0 a1 a2 a3 W0 W1 W2 W3 _).mono ?_
    rintro e x1 ⟨rfl, hg1⟩
    generalize plusW a0 a1 a2 a3 = xw at *
    generalize plusF a0 a1 a2 a3 = xf at *
    go_wp2_with fail
    refine (zzplus_is xw xf a2 a3 a0 a1 W2 W3 W0 W1 C1.out C2.out _).mono ?_
    rintro e x2 ⟨rfl, hg2⟩
    go_wp2_with fail
    refine (zzsub_any 18446744073709551615 18446744073709551615 a2 a3 word_max word_max W2 W3 _).mono ?_
    rintro e x3 ⟨rfl, rfl⟩
    generalize subW 18446744073709551615 18446744073709551615 a2 a3 = sw at *
    generalize subF 18446744073709551615 a3 = sf at *
    go_wp2_with fail
    refine (zzless_is false sw sf a0 a1 HL.out _).mono ?_
    rintro e x4 ⟨rfl, rfl⟩
    go_wp2_with fail
    refine (zzless_is false xw xf a2 a3 N1.out _).mono ?_
    rintro e x5 ⟨rfl, rfl⟩
    go_wp2_with fail
    refine (zzsub_is a0 a1 xw xf a2 a3 Wx Wy W2 W3 B1.out B2.out _).mono ?_
    rintro e x6 ⟨rfl, rfl⟩
    go_wp2_with fail
    go_ret
    exact ⟨rfl, grown_trans hg1 hg2⟩

/-! ### THE ROW's STEP: WRITTEN OUT: LEAVE IT -/
set_option maxRecDepth 100000 in
theorem lifted (os : Os) (started : os.Started) (H : Type) (enc : TypeId × Value → H) :
    ReturnsInHanded {} Try.checked os 3 .any (Rows.fnPlusIsSaturated128SumSpec.pre6 enc Try.prog Try.f3 Rows.fnPlusIsSaturated128SumRow.domain false) (Rows.fnPlusIsSaturated128SumSpec.post enc Try.prog Try.f3 false true false false) := by
  refine returnsInHanded_of_change (C := Try.checked) own started (by kernel_rfl) Try.func3
    (ChangeSpec.witness6 (enc := enc) (C := Try.checked) false ⟨#[], #[.int .u64 0, .int .u64 0, .int .u64 0, .int .u64 0], []⟩ 8 (by kernel_rfl) (by kernel_rfl) (by kernel_rfl) (by kernel_rfl)) ?_
  intro W base args ds gs before hval0 hW hcnd _
  have hval : ∀ (j : Nat) t v, Try.f3.params[j]? = some t → args[j]? = some v → Value.okWide Try.prog W .any base t v := hval0
  have hW' := hW
  obtain ⟨p, q, hA0, hV, rfl, hfz, hnd⟩ := hW
  have hA : DataW.TrodAll enc Try.prog W 0 (fun _ => true) true Try.f3.params.toList args.toList ds p := hA0
  rw [Try.params3] at hA hval
  obtain ⟨v0, vs0, d0, ds0, p0, q0, hargs, rfl, rfl, h0, r0⟩ := trodAll_cons hA
  obtain ⟨v1, vs1, d1, ds1, p1, q1, rfl, rfl, rfl, h1, r1⟩ := trodAll_cons r0
  obtain ⟨v2, vs2, d2, ds2, p2, q2, rfl, rfl, rfl, h2, r2⟩ := trodAll_cons r1
  obtain ⟨v3, vs3, d3, ds3, p3, q3, rfl, rfl, rfl, h3, r3⟩ := trodAll_cons r2
  obtain ⟨rfl, rfl, rfl⟩ := trodAll_nil r3
  obtain rfl : args = #[v0, v1, v2, v3] := by cases args; simp_all
  obtain ⟨rfl, rfl⟩ := trodVars_none hV
  obtain ⟨a0, rfl, rfl, rfl, w0⟩ := open_int Try.underlying22 (hval 0 22 v0 rfl rfl) h0
  obtain ⟨a1, rfl, rfl, rfl, w1⟩ := open_int Try.underlying22 (hval 1 22 v1 rfl rfl) h1
  obtain ⟨a2, rfl, rfl, rfl, w2⟩ := open_int Try.underlying22 (hval 2 22 v2 rfl rfl) h2
  obtain ⟨a3, rfl, rfl, rfl, w3⟩ := open_int Try.underlying22 (hval 3 22 v3 rfl rfl) h3
  clear hA0 hval0
  simp only [List.append_nil] at hW'
  refine (walk a0 a1 a2 a3 w0 w1 w2 w3 W).mono fun e W' ⟨he, hg⟩ => ?_
  subst he
  exact ⟨_, rfl, post_of_same (pa := []) (pv := []) hW' (fun _ _ _ => (trodAll_cons_mk (shut_bool Try.underlying4 _) trodAll_mk0)) (fun sp _ => (trodAll_cons_mk (shut_int Try.underlying22 w0) (trodAll_cons_mk (shut_int Try.underlying22 w1) (trodAll_cons_mk (shut_int Try.underlying22 w2) (trodAll_cons_mk (shut_int Try.underlying22 w3) trodAll_mk0))))) (fun _ _ => rfl) rfl
    (hg.frame _) hg.2.1 (ok_one (by kernel_rfl) rfl (okWide_bool_mk Try.underlying4 _))⟩

theorem over : Rows.fnPlusIsSaturated128SumRow.holds Try.pinned (OpenSpec.ofChange Rows.fnPlusIsSaturated128SumSpec) :=
  OpenClaim.holds_of_wide 3 Try.f3 rfl rfl rfl rfl rfl rfl rfl ⟨rfl, rfl, rfl, rfl, rfl⟩ rfl rfl rfl rfl rfl (by kernel_rfl) Try.func3 (by kernel_rfl)
    (of_decide_eq_true (by kernel_rfl)) (by unfold Func.isWrapper; first | (rw [if_pos (by decide +kernel)]; kernel_rfl) | (rw [if_neg (by decide +kernel)]; exact ⟨rfl, rfl⟩))
    (fun os started H enc _ => lifted os started H enc)

/-- ████ THE STATEMENT ████ -/
theorem proved : Rows.FnPlusIsSaturated128SumSaid :=
  over
#print axioms proved
end Go.Proofs.Qxb6619247a.fnPlusIsSaturated128Sum
