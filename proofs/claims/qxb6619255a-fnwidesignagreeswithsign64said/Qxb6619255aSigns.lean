/-
  The contracts of the functions that the four laws of seat b6619255a share: sign64, ZZSign64, zzIsSignOf, zzMulOverflows, zzSubOverflows, zzCompare, (wide).sign, (wide).isZero, ZZWideSign, zzIsWideSign.
-/
import Derived.Test.Qxb6619255aRows
import Derived.Test.Qxb6619255aPlain
import Derived.WalkKit
import Derived.WalkSpells
import Derived.RowKit3
import Derived.RegionTactic
import Derived.ChangeAlike
namespace Go.Proofs.Qxb6619255a
open Go.RowKit

theorem grown_trans {a b c : World} (h : Grown a b) (h' : Grown b c) : Grown a c :=
  ⟨World.keptBut_trans h.1 h'.1, fun x => (h'.2.1 x).trans (h.2.1 x), Nat.le_trans h.2.2 h'.2.2⟩
/-- The sign. -/
def sgn (a : Int) : Int := if a < 0 then -1 else if 0 < a then 1 else 0
theorem sgn_neg (a : Int) (h : a < 0) : sgn a = -1 := by unfold sgn; rw [if_pos h]
theorem sgn_pos (a : Int) (h : 0 < a) : sgn a = 1 := by unfold sgn; rw [if_neg (by omega), if_pos h]
theorem sgn_zero : sgn 0 = 0 := by decide

theorem sign64_any (a : Int) (w : World) :
    Calls Try.prog 14 #[.int .i64 a] w fun e w' => e = .returned (.int .i64 (sgn a)) ∧ w' = w := by
  by_cases h : a < 0
  · rw [sgn_neg a h]
    go_enter Try.func14, Try.ntmps14
    go_wp2
    go_ret
    exact ⟨rfl, rfl⟩
  by_cases h' : 0 < a
  · rw [sgn_pos a h']
    go_enter Try.func14, Try.ntmps14
    go_wp2
    go_ret
    exact ⟨rfl, rfl⟩
  · have e : a = 0 := by omega
    subst e
    rw [sgn_zero]
    go_enter Try.func14, Try.ntmps14
    go_wp2
    go_ret
    exact ⟨rfl, rfl⟩
theorem zzsign64_any (a : Int) (w : World) :
    Calls Try.prog 8 #[.int .i64 a] w fun e w' => e = .returned (.int .i64 (sgn a)) ∧ w' = w := by
  go_enter Try.func8, Try.ntmps8
  go_wp2_with fail
  refine (sign64_any a _).mono ?_
  rintro e w' ⟨rfl, rfl⟩
  go_wp2_with fail
  go_ret
  exact ⟨rfl, rfl⟩
theorem zzissign_any (a : Int) (w : World) :
    Calls Try.prog 9 #[.int .i64 (sgn a), .int .i64 a] w fun e w' => e = .returned (.bool true) ∧ w' = w := by
  by_cases h : a < 0
  · rw [sgn_neg a h]
    have h0 : (a == 0) = false := beq_eq_false_iff_ne.2 (by omega)
    have h1 : decide (a < 0) = true := by simp [h]
    go_enter Try.func9, Try.ntmps9
    go_wp2
    go_ret
    exact ⟨rfl, rfl⟩
  by_cases h' : 0 < a
  · rw [sgn_pos a h']
    have h0 : (a == 0) = false := beq_eq_false_iff_ne.2 (by omega)
    have h1 : decide (a < 0) = false := by simp; omega
    go_enter Try.func9, Try.ntmps9
    go_wp2
    go_ret
    exact ⟨rfl, rfl⟩
  · have e : a = 0 := by omega
    subst e
    rw [sgn_zero]
    go_enter Try.func9, Try.ntmps9
    go_wp2
    go_ret
    exact ⟨rfl, rfl⟩

theorem zzsub_any (a b : Int) (ha : I64 a) (hb : I64 b) (w : World) :
    Calls Try.prog 10 #[.int .i64 a, .int .i64 b] w fun e w' => ∃ c : Bool, (c = false → I64 (a - b)) ∧ e = .returned (.bool c) ∧ w' = w := by
  have key : ∀ c : Bool, decide (bits .and .i64 (bits .xor .i64 a b) (bits .xor .i64 a (wrap64 (a - b))) < 0) = c → (c = false → I64 (a - b)) := by
    rintro c rfl h
    exact sub_fits a b ha hb (of_decide_eq_false h)
  have K : Hid _ := key
  clear key
  go_enter Try.func10, Try.ntmps10
  go_wp2
  go_ret
  exact ⟨_, K.out _ rfl, rfl, rfl⟩

theorem zzmul_any (a b : Int) (ha : I64 a) (hb : I64 b) (w : World) :
    Calls Try.prog 7 #[.int .i64 a, .int .i64 b] w fun e w' => ∃ c : Bool, (c = false → I64 (a * b)) ∧ e = .returned (.bool c) ∧ w' = w := by
  by_cases g1 : a = 0
  · subst g1
    go_enter Try.func7, Try.ntmps7
    go_wp2
    go_ret
    exact ⟨false, fun _ => by rw [Int.zero_mul]; unfold I64; omega, rfl, rfl⟩
  have h1 : (a == 0) = false := beq_eq_false_iff_ne.2 g1
  by_cases g2 : b = 0
  · subst g2
    go_enter Try.func7, Try.ntmps7
    go_wp2
    go_ret
    exact ⟨false, fun _ => by rw [Int.mul_zero]; unfold I64; omega, rfl, rfl⟩
  have h2 : (b == 0) = false := beq_eq_false_iff_ne.2 g2
  by_cases g3 : a = -1
  · subst g3
    have key : ∀ c : Bool, (b == -9223372036854775808) = c → (c = false → I64 (-1 * b)) := by
      rintro c rfl h
      have := beq_eq_false_iff_ne.1 h
      obtain ⟨_, _⟩ := hb
      unfold I64; omega
    have K : Hid _ := key
    clear key
    go_enter Try.func7, Try.ntmps7
    go_wp2
    go_ret
    exact ⟨_, K.out _ rfl, rfl, rfl⟩
  have h3 : (a == -1) = false := beq_eq_false_iff_ne.2 g3
  by_cases g4 : b = -1
  · subst g4
    have key : ∀ c : Bool, (a == -9223372036854775808) = c → (c = false → I64 (a * -1)) := by
      rintro c rfl h
      have := beq_eq_false_iff_ne.1 h
      obtain ⟨_, _⟩ := ha
      unfold I64; omega
    have K : Hid _ := key
    clear key
    go_enter Try.func7, Try.ntmps7
    go_wp2
    go_ret
    exact ⟨_, K.out _ rfl, rfl, rfl⟩
  have h4 : (b == -1) = false := beq_eq_false_iff_ne.2 g4
  have key : ∀ c : Bool, (wrap64 ((wrap64 (a * b)).tdiv a) != b) = c → (c = false → I64 (a * b)) := by
    rintro c rfl h
    exact mul_fits a b ha hb g1 g3 (by rwa [bne_eq_false_iff_eq] at h)
  have K : Hid _ := key
  clear key
  go_enter Try.func7, Try.ntmps7
  go_wp2
  go_ret
  exact ⟨_, K.out _ rfl, rfl, rfl⟩

theorem zzcompare_any (a b : Int) (w : World) :
    Calls Try.prog 11 #[.int .i64 a, .int .i64 b] w fun e w' => e = .returned (.int .i64 (sgn (a - b))) ∧ w' = w := by
  by_cases h : a < b
  · rw [sgn_neg (a - b) (by omega)]
    go_enter Try.func11, Try.ntmps11
    go_wp2
    go_ret
    exact ⟨rfl, rfl⟩
  by_cases h' : b < a
  · rw [sgn_pos (a - b) (by omega)]
    go_enter Try.func11, Try.ntmps11
    go_wp2
    go_ret
    exact ⟨rfl, rfl⟩
  · have e : a - b = 0 := by omega
    rw [e, sgn_zero]
    clear e
    go_enter Try.func11, Try.ntmps11
    go_wp2
    go_ret
    exact ⟨rfl, rfl⟩

/-- The sign of a wide number. -/
def wsgn (hi lo : Int) (neg : Bool) : Int := if neg = true then -1 else if hi = 0 ∧ lo = 0 then 0 else 1

theorem iszero_any (hi lo : Int) (neg : Bool) (w : World) :
    Calls Try.prog 16 #[.agg #[.int .u64 hi, .int .u64 lo, .bool neg]] w fun e w' => e = .returned (.bool (hi == 0 && lo == 0)) ∧ ∃ c, w' = w.alloc (.cells c 32) := by
  by_cases g : hi = 0
  · subst g
    go_enter Try.func16, Try.ntmps16
    go_wp2
    go_ret
    exact ⟨rfl, _, rfl⟩
  · have h : (hi == 0) = false := beq_eq_false_iff_ne.2 g
    rw [h, Bool.false_and]
    go_enter Try.func16, Try.ntmps16
    go_wp2
    go_ret
    exact ⟨rfl, _, rfl⟩

theorem wsign_any (hi lo : Int) (neg : Bool) (w : World) :
    Calls Try.prog 15 #[.agg #[.int .u64 hi, .int .u64 lo, .bool neg]] w fun e w' => e = .returned (.int .i64 (wsgn hi lo neg)) ∧ Grown w w' := by
  cases neg with
  | true =>
    have E : wsgn hi lo true = -1 := by simp [wsgn]
    rw [E]; clear E
    go_enter Try.func15, Try.ntmps15
    go_wp2_with fail
    go_ret
    exact ⟨rfl, by repeat (first | exact Grown.refl _ | apply Grown.drew | apply Grown.alloc)⟩
  | false =>
    by_cases g : hi = 0 ∧ lo = 0
    · have E : wsgn hi lo false = 0 := by simp [wsgn, g]
      rw [E]; clear E
      obtain ⟨rfl, rfl⟩ := g
      go_enter Try.func15, Try.ntmps15
      go_wp2_with fail
      refine (iszero_any 0 0 false _).mono ?_
      rintro e w' ⟨rfl, c, rfl⟩
      go_wp2_with fail
      go_ret
      exact ⟨rfl, by repeat (first | exact Grown.refl _ | apply Grown.drew | apply Grown.alloc)⟩
    · have E : wsgn hi lo false = 1 := by simp only [wsgn, if_neg g]; rfl
      have z : (hi == 0 && lo == 0) = false := by
        cases h : (hi == 0 && lo == 0) with
        | false => rfl
        | true => simp at h; exact absurd h g
      rw [E]; clear E
      have Z : Hid _ := z
      clear z g
      go_enter Try.func15, Try.ntmps15
      go_wp2_with fail
      refine (iszero_any hi lo false _).mono ?_
      rintro e w' ⟨rfl, c, rfl⟩
      rw [Z.out]
      go_wp2_with fail
      go_ret
      exact ⟨rfl, by repeat (first | exact Grown.refl _ | apply Grown.drew | apply Grown.alloc)⟩

theorem zzwsign_any (hi lo : Int) (neg : Bool) (w : World) :
    Calls Try.prog 12 #[.int .u64 hi, .int .u64 lo, .bool neg] w fun e w' => e = .returned (.int .i64 (wsgn hi lo neg)) ∧ Grown w w' := by
  go_enter Try.func12, Try.ntmps12
  go_wp2_with fail
  refine (wsign_any hi lo neg _).mono ?_
  rintro e w' ⟨rfl, hg⟩
  go_wp2_with fail
  go_ret
  exact ⟨rfl, hg⟩
theorem zzwsign_is (x hi lo : Int) (neg : Bool) (h : wsgn hi lo neg = x) (w : World) :
    Calls Try.prog 12 #[.int .u64 hi, .int .u64 lo, .bool neg] w fun e w' => e = .returned (.int .i64 x) ∧ Grown w w' := by
  have := zzwsign_any hi lo neg w
  rwa [h] at this
theorem zzsign64_is (x a : Int) (h : sgn a = x) (w : World) :
    Calls Try.prog 8 #[.int .i64 a] w fun e w' => e = .returned (.int .i64 x) ∧ w' = w := by
  have := zzsign64_any a w
  rwa [h] at this
end Go.Proofs.Qxb6619255a
