/-
  A PROOF OF 'Rows.FnPlusAssociativeAndFillsGapSaid' ('example.com/dial3/dial3/zzlaws_internal_sim_b1.FnPlusAssociativeAndFillsGap'), WRITTEN BY PROGRAM (proof-skeleton.mjs) off the guide's own print for that function. Not trusted: Lean checks it.
  The walk and the plain laws are filled in; all else is the guide's template at this function's number and types.
-/
import Derived.Test.Qxb6619247aRows
import Derived.Test.Qxb6619247aPlus
import Derived.WalkKit
import Derived.ProofKit
import Derived.OpenShut
import Derived.ShutString
namespace Go.Proofs.Qxb6619247a.fnPlusAssociativeAndFillsGap
open Go.ChangeShapes Go.WideShapes Go.ChangeAt Go.RowKit
open Go.ChangeMaps (open_string shut_string)
set_option linter.unusedVariables false      -- a walk need not use every 'w<i>' (that an integer argument fits its kind)

theorem own : ownKnob Try.prog.godebug = none := by kernel_rfl

/-! ### THE PLAIN LAWS -/
theorem assoc (aw af bw bf cw cf : Int) (h1 : Word aw) (h2 : Word af) (h3 : Word bw) (h4 : Word bf) (h5 : Word cw) (h6 : Word cf) :
    plusW aw af (plusW bw bf cw cf) (plusF bw bf cw cf) = plusW (plusW aw af bw bf) (plusF aw af bw bf) cw cf ∧
    plusF aw af (plusW bw bf cw cf) (plusF bw bf cw cf) = plusF (plusW aw af bw bf) (plusF aw af bw bf) cw cf := by
  obtain ⟨_, _⟩ := h1; obtain ⟨_, _⟩ := h2; obtain ⟨_, _⟩ := h3; obtain ⟨_, _⟩ := h4; obtain ⟨_, _⟩ := h5; obtain ⟨_, _⟩ := h6
  unfold plusW plusF
  by_cases g1 : aw + bw + (af + bf) / 18446744073709551616 < 18446744073709551616
  · by_cases g2 : bw + cw + (bf + cf) / 18446744073709551616 < 18446744073709551616
    · simp only [if_pos g1, if_pos g2]
      constructor <;> split <;> split <;> omega
    · simp only [if_pos g1, if_neg g2]
      constructor <;> split <;> split <;> omega
  · by_cases g2 : bw + cw + (bf + cf) / 18446744073709551616 < 18446744073709551616
    · simp only [if_neg g1, if_pos g2]
      constructor <;> split <;> split <;> omega
    · simp only [if_neg g1, if_neg g2]
      constructor <;> split <;> split <;> omega
theorem gap_w (pw pf qw qf : Int) (h1 : Word pw) (h2 : Word pf) (h3 : Word qw) (h4 : Word qf) (h : lessB qw qf pw pf = false) : plusW pw pf (subW qw qf pw pf) (subF qf pf) = qw := by
  obtain ⟨_, _⟩ := h1; obtain ⟨_, _⟩ := h2; obtain ⟨_, _⟩ := h3; obtain ⟨_, _⟩ := h4
  unfold lessB at h
  rw [decide_eq_false_iff_not] at h
  unfold plusW subW subF
  split <;> split <;> omega
theorem gap_f (pw pf qw qf : Int) (h1 : Word pw) (h2 : Word pf) (h3 : Word qw) (h4 : Word qf) (h : lessB qw qf pw pf = false) : plusF pw pf (subW qw qf pw pf) (subF qf pf) = qf := by
  obtain ⟨_, _⟩ := h1; obtain ⟨_, _⟩ := h2; obtain ⟨_, _⟩ := h3; obtain ⟨_, _⟩ := h4
  unfold lessB at h
  rw [decide_eq_false_iff_not] at h
  unfold plusF subW subF
  split <;> split <;> omega
theorem less_anti (pw pf qw qf : Int) (h1 : Word pw) (h2 : Word pf) (h3 : Word qw) (h4 : Word qf) (h : lessB qw qf pw pf = true) : lessB pw pf qw qf = false := by
  obtain ⟨_, _⟩ := h1; obtain ⟨_, _⟩ := h2; obtain ⟨_, _⟩ := h3; obtain ⟨_, _⟩ := h4
  unfold lessB at *
  rw [decide_eq_true_eq] at h
  rw [decide_eq_false_iff_not]
  omega

/-! ### STEP 1: THE WALK -/
theorem walk (a0 : Int) (a1 : Int) (a2 : Int) (a3 : Int) (a4 : Int) (a5 : Int) (w0 : (Lit.int .u64 a0).wf = true) (w1 : (Lit.int .u64 a1).wf = true) (w2 : (Lit.int .u64 a2).wf = true) (w3 : (Lit.int .u64 a3).wf = true) (w4 : (Lit.int .u64 a4).wf = true) (w5 : (Lit.int .u64 a5).wf = true) (w : World) :
    Calls Try.prog 4 #[.int .u64 a0, .int .u64 a1, .int .u64 a2, .int .u64 a3, .int .u64 a4, .int .u64 a5] w fun e w' => e = .returned (.bool true) ∧ Grown w w' := by
  have W0 := word_of_wf w0; have W1 := word_of_wf w1; have W2 := word_of_wf w2; have W3 := word_of_wf w3; have W4 := word_of_wf w4; have W5 := word_of_wf w5
  clear w0 w1 w2 w3 w4 w5
  have A1 : Hid _ := (assoc a0 a1 a2 a3 a4 a5 W0 W1 W2 W3 W4 W5).1
  have A2 : Hid _ := (assoc a0 a1 a2 a3 a4 a5 W0 W1 W2 W3 W4 W5).2
  have Wab := word_plusW a0 a1 a2 a3 W0 W1 W2 W3
  have Wab' := word_plusF a0 a1 a2 a3
  have Wbc := word_plusW a2 a3 a4 a5 W2 W3 W4 W5
  have Wbc' := word_plusF a2 a3 a4 a5
  cases hl : lessB a2 a3 a0 a1 with
  | false =>
    have G1 : Hid _ := gap_w a0 a1 a2 a3 W0 W1 W2 W3 hl
    have G2 : Hid _ := gap_f a0 a1 a2 a3 W0 W1 W2 W3 hl
    have WS := word_subW a2 a3 a0 a1
    have WT := word_subF a3 a1
    have HL : Hid _ := hl
    clear hl
    go_enter Try.func4, Try.ntmps4
    go_wp2_with fail
    refine (zzplus_any a0 a1 a2 a3 W0 W1 W2 W3 _).mono ?_
    rintro e x1 ⟨rfl, hg1⟩
    generalize plusW a0 a1 a2 a3 = abw at *
    generalize plusF a0 a1 a2 a3 = abf at *
    go_wp2_with fail
    refine (zzplus_any abw abf a4 a5 Wab Wab' W4 W5 _).mono ?_
    rintro e x2 ⟨rfl, hg2⟩
    generalize plusW abw abf a4 a5 = xw at *
    generalize plusF abw abf a4 a5 = xf at *
    go_wp2_with fail
    refine (zzplus_any a2 a3 a4 a5 W2 W3 W4 W5 _).mono ?_
    rintro e x3 ⟨rfl, hg3⟩
    generalize plusW a2 a3 a4 a5 = bcw at *
    generalize plusF a2 a3 a4 a5 = bcf at *
    go_wp2_with fail
    refine (zzplus_is xw xf a0 a1 bcw bcf W0 W1 Wbc Wbc' A1.out A2.out _).mono ?_
    rintro e x4 ⟨rfl, hg4⟩
    go_wp2_with fail
    refine (zzless_is false a2 a3 a0 a1 HL.out _).mono ?_
    rintro e x5 ⟨rfl, rfl⟩
    go_wp2_with fail
    refine (zzsub_any a2 a3 a0 a1 W2 W3 W0 W1 _).mono ?_
    rintro e x6 ⟨rfl, rfl⟩
    generalize subW a2 a3 a0 a1 = sw at *
    generalize subF a3 a1 = sf at *
    go_wp2_with fail
    refine (zzplus_is a2 a3 a0 a1 sw sf W0 W1 WS WT G1.out G2.out _).mono ?_
    rintro e x7 ⟨rfl, hg7⟩
    go_wp2_with fail
    go_ret
    exact ⟨rfl, grown_trans hg1 (grown_trans hg2 (grown_trans hg3 (grown_trans hg4 hg7)))⟩
  | true =>
    have hn := less_anti a0 a1 a2 a3 W0 W1 W2 W3 hl
    have G1 : Hid _ := gap_w a2 a3 a0 a1 W2 W3 W0 W1 hn
    have G2 : Hid _ := gap_f a2 a3 a0 a1 W2 W3 W0 W1 hn
    have WS := word_subW a0 a1 a2 a3
    have WT := word_subF a1 a3
    have HL : Hid _ := hl
    clear hl hn
    go_enter Try.func4, Try.ntmps4
    go_wp2_with fail
    refine (zzplus_any a0 a1 a2 a3 W0 W1 W2 W3 _).mono ?_
    rintro e x1 ⟨rfl, hg1⟩
    generalize plusW a0 a1 a2 a3 = abw at *
    generalize plusF a0 a1 a2 a3 = abf at *
    go_wp2_with fail
    refine (zzplus_any abw abf a4 a5 Wab Wab' W4 W5 _).mono ?_
    rintro e x2 ⟨rfl, hg2⟩
    generalize plusW abw abf a4 a5 = xw at *
    generalize plusF abw abf a4 a5 = xf at *
    go_wp2_with fail
    refine (zzplus_any a2 a3 a4 a5 W2 W3 W4 W5 _).mono ?_
    rintro e x3 ⟨rfl, hg3⟩
    generalize plusW a2 a3 a4 a5 = bcw at *
    generalize plusF a2 a3 a4 a5 = bcf at *
    go_wp2_with fail
    refine (zzplus_is xw xf a0 a1 bcw bcf W0 W1 Wbc Wbc' A1.out A2.out _).mono ?_
    rintro e x4 ⟨rfl, hg4⟩
    go_wp2_with fail
    refine (zzless_is true a2 a3 a0 a1 HL.out _).mono ?_
    rintro e x5 ⟨rfl, rfl⟩
    go_wp2_with fail
    refine (zzsub_any a0 a1 a2 a3 W0 W1 W2 W3 _).mono ?_
    rintro e x6 ⟨rfl, rfl⟩
    generalize subW a0 a1 a2 a3 = sw at *
    generalize subF a1 a3 = sf at *
    go_wp2_with fail
    refine (zzplus_is a0 a1 a2 a3 sw sf W2 W3 WS WT G1.out G2.out _).mono ?_
    rintro e x7 ⟨rfl, hg7⟩
    go_wp2_with fail
    go_ret
    exact ⟨rfl, grown_trans hg1 (grown_trans hg2 (grown_trans hg3 (grown_trans hg4 hg7)))⟩

/-! ### THE ROW's STEP: WRITTEN OUT: LEAVE IT -/
set_option maxRecDepth 100000 in
theorem lifted (os : Os) (started : os.Started) (H : Type) (enc : TypeId × Value → H) :
    ReturnsInHanded {} Try.checked os 4 .any (Rows.fnPlusAssociativeAndFillsGapSpec.pre6 enc Try.prog Try.f4 Rows.fnPlusAssociativeAndFillsGapRow.domain false) (Rows.fnPlusAssociativeAndFillsGapSpec.post enc Try.prog Try.f4 false true false false) := by
  refine returnsInHanded_of_change (C := Try.checked) own started (by kernel_rfl) Try.func4
    (ChangeSpec.witness6 (enc := enc) (C := Try.checked) false ⟨#[], #[.int .u64 0, .int .u64 0, .int .u64 0, .int .u64 0, .int .u64 0, .int .u64 0], []⟩ 8 (by kernel_rfl) (by kernel_rfl) (by kernel_rfl) (by kernel_rfl)) ?_
  intro W base args ds gs before hval0 hW hcnd _
  have hval : ∀ (j : Nat) t v, Try.f4.params[j]? = some t → args[j]? = some v → Value.okWide Try.prog W .any base t v := hval0
  have hW' := hW
  obtain ⟨p, q, hA0, hV, rfl, hfz, hnd⟩ := hW
  have hA : DataW.TrodAll enc Try.prog W 0 (fun _ => true) true Try.f4.params.toList args.toList ds p := hA0
  rw [Try.params4] at hA hval
  obtain ⟨v0, vs0, d0, ds0, p0, q0, hargs, rfl, rfl, h0, r0⟩ := trodAll_cons hA
  obtain ⟨v1, vs1, d1, ds1, p1, q1, rfl, rfl, rfl, h1, r1⟩ := trodAll_cons r0
  obtain ⟨v2, vs2, d2, ds2, p2, q2, rfl, rfl, rfl, h2, r2⟩ := trodAll_cons r1
  obtain ⟨v3, vs3, d3, ds3, p3, q3, rfl, rfl, rfl, h3, r3⟩ := trodAll_cons r2
  obtain ⟨v4, vs4, d4, ds4, p4, q4, rfl, rfl, rfl, h4, r4⟩ := trodAll_cons r3
  obtain ⟨v5, vs5, d5, ds5, p5, q5, rfl, rfl, rfl, h5, r5⟩ := trodAll_cons r4
  obtain ⟨rfl, rfl, rfl⟩ := trodAll_nil r5
  obtain rfl : args = #[v0, v1, v2, v3, v4, v5] := by cases args; simp_all
  obtain ⟨rfl, rfl⟩ := trodVars_none hV
  obtain ⟨a0, rfl, rfl, rfl, w0⟩ := open_int Try.underlying22 (hval 0 22 v0 rfl rfl) h0
  obtain ⟨a1, rfl, rfl, rfl, w1⟩ := open_int Try.underlying22 (hval 1 22 v1 rfl rfl) h1
  obtain ⟨a2, rfl, rfl, rfl, w2⟩ := open_int Try.underlying22 (hval 2 22 v2 rfl rfl) h2
  obtain ⟨a3, rfl, rfl, rfl, w3⟩ := open_int Try.underlying22 (hval 3 22 v3 rfl rfl) h3
  obtain ⟨a4, rfl, rfl, rfl, w4⟩ := open_int Try.underlying22 (hval 4 22 v4 rfl rfl) h4
  obtain ⟨a5, rfl, rfl, rfl, w5⟩ := open_int Try.underlying22 (hval 5 22 v5 rfl rfl) h5
  clear hA0 hval0
  simp only [List.append_nil] at hW'
  refine (walk a0 a1 a2 a3 a4 a5 w0 w1 w2 w3 w4 w5 W).mono fun e W' ⟨he, hg⟩ => ?_
  subst he
  exact ⟨_, rfl, post_of_same (pa := []) (pv := []) hW' (fun _ _ _ => (trodAll_cons_mk (shut_bool Try.underlying4 _) trodAll_mk0)) (fun sp _ => (trodAll_cons_mk (shut_int Try.underlying22 w0) (trodAll_cons_mk (shut_int Try.underlying22 w1) (trodAll_cons_mk (shut_int Try.underlying22 w2) (trodAll_cons_mk (shut_int Try.underlying22 w3) (trodAll_cons_mk (shut_int Try.underlying22 w4) (trodAll_cons_mk (shut_int Try.underlying22 w5) trodAll_mk0))))))) (fun _ _ => rfl) rfl
    (hg.frame _) hg.2.1 (ok_one (by kernel_rfl) rfl (okWide_bool_mk Try.underlying4 _))⟩

theorem over : Rows.fnPlusAssociativeAndFillsGapRow.holds Try.pinned (OpenSpec.ofChange Rows.fnPlusAssociativeAndFillsGapSpec) :=
  OpenClaim.holds_of_wide 4 Try.f4 rfl rfl rfl rfl rfl rfl rfl ⟨rfl, rfl, rfl, rfl, rfl⟩ rfl rfl rfl rfl rfl (by kernel_rfl) Try.func4 (by kernel_rfl)
    (of_decide_eq_true (by kernel_rfl)) (by unfold Func.isWrapper; first | (rw [if_pos (by decide +kernel)]; kernel_rfl) | (rw [if_neg (by decide +kernel)]; exact ⟨rfl, rfl⟩))
    (fun os started H enc _ => lifted os started H enc)

/-- ████ THE STATEMENT ████ -/
theorem proved : Rows.FnPlusAssociativeAndFillsGapSaid :=
  over
#print axioms proved
end Go.Proofs.Qxb6619247a.fnPlusAssociativeAndFillsGap
