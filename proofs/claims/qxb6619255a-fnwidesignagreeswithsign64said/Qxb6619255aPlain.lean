/-
  Plain laws of int64 arithmetic (no Go text in sight) for seat b6619255a.
-/
import Derived.WalkKit
namespace Go.Proofs.Qxb6619255a
open Go.RowKit

/-- An int64. -/
def I64 (x : Int) : Prop := -9223372036854775808 ≤ x ∧ x < 9223372036854775808

theorem toInt_ofInt64 (a : Int) (h : I64 a) : (BitVec.ofInt 64 a).toInt = a := by
  obtain ⟨_, _⟩ := h
  rw [BitVec.toInt_ofInt, Int.bmod_def]
  split <;> omega
theorem msb_ofInt64 (a : Int) (h : I64 a) : (BitVec.ofInt 64 a).msb = decide (a < 0) := by
  rw [BitVec.msb_eq_toInt, toInt_ofInt64 a h]
theorem wrap_toNat64 (x : BitVec 64) : IntKind.i64.wrap (x.toNat : Int) = x.toInt := by
  have := x.isLt
  rw [IntKind.wrap_i64, BitVec.toInt_eq_toNat_cond]
  split <;> omega
theorem xor_i64 (a b : Int) : bits .xor .i64 a b = (BitVec.ofInt 64 a ^^^ BitVec.ofInt 64 b).toInt := by
  show IntKind.i64.wrap ((BitVec.ofInt 64 a ^^^ BitVec.ofInt 64 b).toNat : Int) = _
  exact wrap_toNat64 _
theorem and_i64 (a b : Int) : bits .and .i64 a b = (BitVec.ofInt 64 a &&& BitVec.ofInt 64 b).toInt := by
  show IntKind.i64.wrap ((BitVec.ofInt 64 a &&& BitVec.ofInt 64 b).toNat : Int) = _
  exact wrap_toNat64 _
theorem over_neg (a b d : Int) (ha : I64 a) (hb : I64 b) (hd : I64 d) :
    (bits .and .i64 (bits .xor .i64 a b) (bits .xor .i64 a d) < 0) ↔ ((decide (a < 0)) ^^ (decide (b < 0))) = true ∧ ((decide (a < 0)) ^^ (decide (d < 0))) = true := by
  rw [and_i64, xor_i64, xor_i64, BitVec.ofInt_toInt, BitVec.ofInt_toInt, ← decide_eq_true_eq (p := _ < 0), ← BitVec.msb_eq_toInt, BitVec.msb_and, BitVec.msb_xor, BitVec.msb_xor, msb_ofInt64 a ha, msb_ofInt64 b hb, msb_ofInt64 d hd, Bool.and_eq_true]
theorem wrap64_i64 (n : Int) : I64 (wrap64 n) := by unfold I64 wrap64; omega
theorem wrap64_of (n : Int) (h : I64 n) : wrap64 n = n := by obtain ⟨_, _⟩ := h; unfold wrap64; omega
theorem sub_fits (a b : Int) (ha : I64 a) (hb : I64 b) (h : ¬ bits .and .i64 (bits .xor .i64 a b) (bits .xor .i64 a (wrap64 (a - b))) < 0) : I64 (a - b) := by
  rw [over_neg a b _ ha hb (wrap64_i64 _)] at h
  obtain ⟨_, _⟩ := ha; obtain ⟨_, _⟩ := hb
  unfold wrap64 at h
  unfold I64
  simp at h
  omega
theorem mul_fits (a b : Int) (ha : I64 a) (hb : I64 b) (h0 : ¬ a = 0) (h1 : ¬ a = -1) (h : wrap64 ((wrap64 (a * b)).tdiv a) = b) : I64 (a * b) := by
  generalize hm : a * b = m at *
  have hp : wrap64 m = (m + 9223372036854775808) % 18446744073709551616 - 9223372036854775808 := by unfold wrap64; exact Eq.refl _
  generalize wrap64 m = p at *
  have e1 := Int.mul_tdiv_add_tmod p a
  have e2 : (p.tdiv a).natAbs = p.natAbs / a.natAbs := Int.natAbs_tdiv p a
  have e3 : (p.tmod a).natAbs = p.natAbs % a.natAbs := Int.natAbs_tmod p a
  have e4 : p.natAbs % a.natAbs < a.natAbs := Nat.mod_lt _ (by omega)
  have e5 : a = 1 ∨ p.natAbs / a.natAbs ≤ p.natAbs / 2 := by
    by_cases g : a = 1
    · exact Or.inl g
    · exact Or.inr (Nat.div_le_div_left (by omega) (by omega))
  obtain ⟨_, _⟩ := ha; obtain ⟨_, _⟩ := hb
  have e6 : p.tdiv a = b := by
    unfold wrap64 at h
    rcases e5 with rfl | e5
    · rw [Int.tdiv_one] at h ⊢
      omega
    · omega
  rw [e6, hm] at e1
  unfold I64
  omega
end Go.Proofs.Qxb6619255a
