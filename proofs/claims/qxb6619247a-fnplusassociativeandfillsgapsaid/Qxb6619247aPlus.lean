/-
  The contracts of the functions that the three laws of seat b6619247a share: math/bits.Add64 (by the model's entry), (position).plus, ZZPlus, zzSub, zzLess.
-/
import Derived.Test.Qxb6619247aRows
import Derived.WalkKit
import Derived.WalkSpells
import Derived.StillTactics
import Derived.Laws.Pointers
import Derived.Laws.Externs
import Derived.RowKit3
import Derived.RegionTactic
import Derived.ChangeAlike
namespace Go.Proofs.Qxb6619247a
open Go.RowKit

theorem grown_trans {a b c : World} (h : Grown a b) (h' : Grown b c) : Grown a c :=
  ⟨World.keptBut_trans h.1 h'.1, fun x => (h'.2.1 x).trans (h.2.1 x), Nat.le_trans h.2.2 h'.2.2⟩

theorem add64 (x y c : Int) (hx : 0 ≤ x) (hy : 0 ≤ y) (hc0 : 0 ≤ c) (hc : c ≤ 1) (w : World) : (callFunc 10 #[.int .u64 x, .int .u64 y, .int .u64 c]).run Try.prog w =
    .ok (.value (.tuple #[.int .u64 ((x + y + c) % 18446744073709551616), .int .u64 ((x + y + c) / 18446744073709551616)])) w := by
  rw [run_callFunc_extern Try.func10 (by kernel_rfl) (by kernel_rfl) (by kernel_rfl) (e := add64Entry) (by kernel_rfl), run_add64 x y c hx hy hc0 hc]
  rfl
theorem add64_0 (x y : Int) (hx : 0 ≤ x) (hy : 0 ≤ y) (w : World) : (callFunc 10 #[.int .u64 x, .int .u64 y, .int .u64 0]).run Try.prog w =
    .ok (.value (.tuple #[.int .u64 ((x + y) % 18446744073709551616), .int .u64 ((x + y) / 18446744073709551616)])) w := by
  simpa using add64 x y 0 hx hy (Int.le_refl 0) (by decide) w

/-- A word of 64 bits. -/
def Word (x : Int) : Prop := 0 ≤ x ∧ x < 18446744073709551616

theorem word_of_wf {x : Int} (h : (Lit.int .u64 x).wf = true) : Word x := by
  simp [Lit.wf, IntKind.min, IntKind.max, IntKind.signed, IntKind.bits] at h
  exact ⟨by omega, by omega⟩
theorem word_max : Word 18446744073709551615 := ⟨by omega, by omega⟩
theorem word_zero : Word 0 := ⟨by omega, by omega⟩

/-- The upper word of the saturated sum. -/
def plusW (pw pf qw qf : Int) : Int := if pw + qw + (pf + qf) / 18446744073709551616 < 18446744073709551616 then pw + qw + (pf + qf) / 18446744073709551616 else 18446744073709551615
/-- The lower word of the saturated sum. -/
def plusF (pw pf qw qf : Int) : Int := if pw + qw + (pf + qf) / 18446744073709551616 < 18446744073709551616 then (pf + qf) % 18446744073709551616 else 18446744073709551615

theorem plus_any (pw pf qw qf : Int) (h1 : Word pw) (h2 : Word pf) (h3 : Word qw) (h4 : Word qf) (w : World) :
    Calls Try.prog 9 #[.agg #[.int .u64 pw, .int .u64 pf], .agg #[.int .u64 qw, .int .u64 qf]] w fun e w' =>
      e = .returned (.agg #[.int .u64 (plusW pw pf qw qf), .int .u64 (plusF pw pf qw qf)]) ∧ ∃ c1 c2 c3 : Array Value, w' = ((w.alloc (.cells c1 28)).alloc (.cells c2 28)).alloc (.cells c3 28) := by
  obtain ⟨a1, a2⟩ := h1; obtain ⟨b1, b2⟩ := h2; obtain ⟨c1, c2⟩ := h3; obtain ⟨d1, d2⟩ := h4
  have k0 : 0 ≤ (pf + qf) / 18446744073709551616 := by omega
  have k1 : (pf + qf) / 18446744073709551616 ≤ 1 := by omega
  by_cases ho : pw + qw + (pf + qf) / 18446744073709551616 < 18446744073709551616
  · have e0 : ((pw + qw + (pf + qf) / 18446744073709551616) / 18446744073709551616 != 0) = false := by
      rw [bne_eq_false_iff_eq]; omega
    have E1 : plusW pw pf qw qf = (pw + qw + (pf + qf) / 18446744073709551616) % 18446744073709551616 := by unfold plusW; rw [if_pos ho]; omega
    have E2 : plusF pw pf qw qf = (pf + qf) % 18446744073709551616 := by unfold plusF; rw [if_pos ho]
    rw [E1, E2]; clear E1 E2
    go_enter Try.func9, Try.ntmps9
    go_wp2_with (first | simp only [add64_0 pf qf b1 d1] | simp only [add64 pw qw _ a1 c1 k0 k1])
    simp [bodyPost, results, Try.results9, go_sem]
    exact ⟨_, _, _, rfl⟩
  · have e0 : ((pw + qw + (pf + qf) / 18446744073709551616) / 18446744073709551616 != 0) = true := by
      rw [bne_iff_ne]; omega
    have E1 : plusW pw pf qw qf = 18446744073709551615 := by unfold plusW; rw [if_neg ho]
    have E2 : plusF pw pf qw qf = 18446744073709551615 := by unfold plusF; rw [if_neg ho]
    rw [E1, E2]; clear E1 E2
    go_enter Try.func9, Try.ntmps9
    go_wp2_with (first | simp only [add64_0 pf qf b1 d1] | simp only [add64 pw qw _ a1 c1 k0 k1])
    simp [bodyPost, results, Try.results9, go_sem]
    exact ⟨_, _, _, rfl⟩

theorem zzplus_any (pw pf qw qf : Int) (h1 : Word pw) (h2 : Word pf) (h3 : Word qw) (h4 : Word qf) (w : World) :
    Calls Try.prog 6 #[.int .u64 pw, .int .u64 pf, .int .u64 qw, .int .u64 qf] w fun e w' =>
      e = .returned (.tuple #[.int .u64 (plusW pw pf qw qf), .int .u64 (plusF pw pf qw qf)]) ∧ Grown w w' := by
  go_enter Try.func6, Try.ntmps6
  go_wp2_with (go_at_call 9; refine (plus_any pw pf qw qf h1 h2 h3 h4 _).mono ?_; rintro e w' ⟨rfl, c1, c2, c3, rfl⟩)
  go_region
  go_wp2
  go_ret2
  exact ⟨rfl, by repeat (first | exact Grown.refl _ | apply Grown.drew | apply Grown.alloc)⟩

/-- 'ah:al' is below 'bh:bl'. -/
def lessB (ah al bh bl : Int) : Bool := decide (ah < bh ∨ (ah = bh ∧ al < bl))
theorem zzless_any (ah al bh bl : Int) (w : World) :
    Calls Try.prog 8 #[.int .u64 ah, .int .u64 al, .int .u64 bh, .int .u64 bl] w fun e w' =>
      e = .returned (.bool (lessB ah al bh bl)) ∧ w' = w := by
  by_cases g1 : ah < bh
  · have E : lessB ah al bh bl = true := by simp [lessB, g1]
    rw [E]; clear E
    go_enter Try.func8, Try.ntmps8
    go_wp2
    go_ret
    exact ⟨rfl, rfl⟩
  by_cases g2 : ah = bh
  · subst g2
    by_cases g3 : al < bl
    · have E : lessB ah al ah bl = true := by simp [lessB, g3]
      rw [E]; clear E
      go_enter Try.func8, Try.ntmps8
      go_wp2
      go_ret
      exact ⟨rfl, rfl⟩
    · have E : lessB ah al ah bl = false := by simp [lessB, g3]
      rw [E]; clear E
      go_enter Try.func8, Try.ntmps8
      go_wp2
      go_ret
      exact ⟨rfl, rfl⟩
  · have E : lessB ah al bh bl = false := by simp [lessB, g1, g2]
    rw [E]; clear E
    go_enter Try.func8, Try.ntmps8
    go_wp2
    go_ret
    exact ⟨rfl, rfl⟩

/-- The upper word of 'ah:al' minus 'bh:bl' modulo 2^128. -/
def subW (ah al bh bl : Int) : Int := (ah - bh - if al < bl then 1 else 0) % 18446744073709551616
/-- The lower word. -/
def subF (al bl : Int) : Int := (al - bl) % 18446744073709551616
theorem ret_two {k1 k2 : IntKind} {a b c d : Int} (h : a = c) (h' : b = d) : Ending.returned (.tuple #[.int k1 a, .int k2 b]) = .returned (.tuple #[.int k1 c, .int k2 d]) := by rw [h, h']
theorem zzsub_any (ah al bh bl : Int) (h1 : Word ah) (h2 : Word al) (h3 : Word bh) (h4 : Word bl) (w : World) :
    Calls Try.prog 7 #[.int .u64 ah, .int .u64 al, .int .u64 bh, .int .u64 bl] w fun e w' =>
      e = .returned (.tuple #[.int .u64 (subW ah al bh bl), .int .u64 (subF al bl)]) ∧ w' = w := by
  obtain ⟨a1, a2⟩ := h1; obtain ⟨b1, b2⟩ := h2; obtain ⟨c1, c2⟩ := h3; obtain ⟨d1, d2⟩ := h4
  by_cases g : al < bl
  · go_enter Try.func7, Try.ntmps7
    go_wp2
    go_ret2
    refine ⟨ret_two (c := subW ah al bh bl) (d := subF al bl) ?_ ?_, rfl⟩
    · rw [IntKind.wrap_u64, IntKind.wrap_u64]; unfold subW; rw [if_pos g]; omega
    · rw [IntKind.wrap_u64]; rfl
  · go_enter Try.func7, Try.ntmps7
    go_wp2
    go_ret2
    refine ⟨ret_two (c := subW ah al bh bl) (d := subF al bl) ?_ ?_, rfl⟩
    · rw [IntKind.wrap_u64, IntKind.wrap_u64]; unfold subW; rw [if_neg (by omega)]; omega
    · unfold subF; omega
theorem zzless_is (b : Bool) (ah al bh bl : Int) (h : lessB ah al bh bl = b) (w : World) :
    Calls Try.prog 8 #[.int .u64 ah, .int .u64 al, .int .u64 bh, .int .u64 bl] w fun e w' => e = .returned (.bool b) ∧ w' = w := by
  have := zzless_any ah al bh bl w
  rwa [h] at this
theorem zzplus_is (xw xf pw pf qw qf : Int) (h1 : Word pw) (h2 : Word pf) (h3 : Word qw) (h4 : Word qf) (e1 : plusW pw pf qw qf = xw) (e2 : plusF pw pf qw qf = xf) (w : World) :
    Calls Try.prog 6 #[.int .u64 pw, .int .u64 pf, .int .u64 qw, .int .u64 qf] w fun e w' => e = .returned (.tuple #[.int .u64 xw, .int .u64 xf]) ∧ Grown w w' := by
  have := zzplus_any pw pf qw qf h1 h2 h3 h4 w
  rwa [e1, e2] at this
theorem zzsub_is (xw xf pw pf qw qf : Int) (h1 : Word pw) (h2 : Word pf) (h3 : Word qw) (h4 : Word qf) (e1 : subW pw pf qw qf = xw) (e2 : subF pf qf = xf) (w : World) :
    Calls Try.prog 7 #[.int .u64 pw, .int .u64 pf, .int .u64 qw, .int .u64 qf] w fun e w' => e = .returned (.tuple #[.int .u64 xw, .int .u64 xf]) ∧ w' = w := by
  have := zzsub_any pw pf qw qf h1 h2 h3 h4 w
  rwa [e1, e2] at this
theorem word_plusW (pw pf qw qf : Int) (h1 : Word pw) (h2 : Word pf) (h3 : Word qw) (h4 : Word qf) : Word (plusW pw pf qw qf) := by
  obtain ⟨_, _⟩ := h1; obtain ⟨_, _⟩ := h2; obtain ⟨_, _⟩ := h3; obtain ⟨_, _⟩ := h4
  unfold plusW Word; split <;> omega
theorem word_plusF (pw pf qw qf : Int) : Word (plusF pw pf qw qf) := by
  unfold plusF Word; split <;> omega
theorem word_subW (pw pf qw qf : Int) : Word (subW pw pf qw qf) := by
  unfold subW Word; omega
theorem word_subF (pf qf : Int) : Word (subF pf qf) := by
  unfold subF Word; omega
end Go.Proofs.Qxb6619247a
