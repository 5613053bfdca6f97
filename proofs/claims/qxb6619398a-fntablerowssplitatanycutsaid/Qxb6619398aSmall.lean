/-
  Seat b6619398a: the contracts of ZZVerdict, zzColsRuleStatusDetail and zzSameRow.
-/
import Derived.Test.Qxb6619398aBytes
import Derived.Deep.QuietTactic
import Derived.BigQuiet
namespace Go.Proofs.Qxb6619398a
open Go.RowKit

theorem zzverdict_any (r : ByteArray) (p : Bool) (d : ByteArray) (w : World) :
    Calls Try.prog 5 #[.string r, .bool p, .string d] w fun e w' => e = .returned (.agg #[.string r, .bool p, .string d]) ∧ w' = w.alloc (.cells #[.string r, .bool p, .string d] 28) := by
  go_enter Try.func5, Try.ntmps5
  go_wp2
  simp [bodyPost, results, Try.results5, go_sem]

/-- The nine cells of the three columns. -/
def Cols (w : World) (cb : Nat) : Prop :=
  w.cell? ⟨cb, 0, none⟩ = some (.string ⟨#[114, 117, 108, 101]⟩) ∧ w.cell? ⟨cb, 1, none⟩ = some (.string ⟨#[]⟩) ∧ w.cell? ⟨cb, 2, none⟩ = some (.bool false) ∧
  w.cell? ⟨cb, 3, none⟩ = some (.string ⟨#[115, 116, 97, 116, 117, 115]⟩) ∧ w.cell? ⟨cb, 4, none⟩ = some (.string ⟨#[]⟩) ∧ w.cell? ⟨cb, 5, none⟩ = some (.bool false) ∧
  w.cell? ⟨cb, 6, none⟩ = some (.string ⟨#[100, 101, 116, 97, 105, 108]⟩) ∧ w.cell? ⟨cb, 7, none⟩ = some (.string ⟨#[]⟩) ∧ w.cell? ⟨cb, 8, none⟩ = some (.bool false)

set_option maxHeartbeats 800000 in
theorem zzcols_any (cb : Nat) (w : World) (h : Cols w cb) :
    Calls Try.prog 7 #[.slice (some ⟨cb, 0, none⟩) 3 3] w fun e w' => e = .returned (.bool true) ∧ w = w' := by
  obtain ⟨c0, c1, c2, c3, c4, c5, c6, c7, c8⟩ := h
  go_enter Try.func7, Try.ntmps7
  go_wp2
  go_loop [3] (fun i => ∃ k : Nat, k ≤ 3 ∧ i = .int .i64 k) (fun i => 3 - (intOf i).toNat)
  case atStart => exact ⟨0, by omega, rfl⟩
  case round =>
    obtain ⟨k, hk, rfl⟩ := hrel
    have hk4 : k = 0 ∨ k = 1 ∨ k = 2 ∨ k = 3 := by omega
    rcases hk4 with rfl | rfl | rfl | rfl
    · go_wp2
      go_round
      case rel => exact ⟨1, by omega, by go_num⟩
      case measure => simp [intOf]
    · go_wp2
      go_round
      case rel => exact ⟨2, by omega, by go_num⟩
      case measure => simp [intOf]
    · go_wp2
      go_round
      case rel => exact ⟨3, by omega, by go_num⟩
      case measure => simp [intOf]
    · go_wp2
      go_ret
      exact ⟨rfl, rfl⟩

/-- The three cells of a row of strings. -/
def Row3 (w : World) (b : Nat) (x y z : ByteArray) : Prop :=
  w.cell? ⟨b, 0, none⟩ = some (.string x) ∧ w.cell? ⟨b, 1, none⟩ = some (.string y) ∧ w.cell? ⟨b, 2, none⟩ = some (.string z)

set_option maxHeartbeats 800000 in
theorem zzsame_any (a b : Nat) (x y z : ByteArray) (w : World) (ha : Row3 w a x y z) (hb : Row3 w b x y z) :
    Calls Try.prog 8 #[.slice (some ⟨a, 0, none⟩) 3 3, .slice (some ⟨b, 0, none⟩) 3 3] w fun e w' => e = .returned (.bool true) ∧ ∃ m, w' = w.drewN m := by
  obtain ⟨a0, a1, a2⟩ := ha
  obtain ⟨b0, b1, b2⟩ := hb
  go_enter Try.func8, Try.ntmps8
  go_wp2
  go_loopw [5] (fun i wr => ∃ k m : Nat, k ≤ 3 ∧ i = .int .i64 k ∧ wr = w.drewN m) (fun i _ => 3 - (intOf i).toNat)
  case atStart => exact ⟨0, 0, by omega, rfl, rfl⟩
  case round =>
    obtain ⟨k, m, hk, rfl, rfl⟩ := hrel
    have hk4 : k = 0 ∨ k = 1 ∨ k = 2 ∨ k = 3 := by omega
    rcases hk4 with rfl | rfl | rfl | rfl
    · go_wp2
      go_quiet (fail)
      go_wp2
      go_roundw
      case rel => exact ⟨1, _, by omega, by go_num, rfl⟩
      case measure => simp [intOf]
    · go_wp2
      go_quiet (fail)
      go_wp2
      go_roundw
      case rel => exact ⟨2, _, by omega, by go_num, rfl⟩
      case measure => simp [intOf]
    · go_wp2
      go_quiet (fail)
      go_wp2
      go_roundw
      case rel => exact ⟨3, _, by omega, by go_num, rfl⟩
      case measure => simp [intOf]
    · go_wp2
      go_ret
      exact ⟨rfl, _, rfl⟩
end Go.Proofs.Qxb6619398a
