/-
  Seat b6619398a: what a slice of three-cell elements holds, and the contract of zzBytes_FnTableRowsSplitAtAnyCut.
-/
import Derived.Test.Qxb6619398aRows
import Derived.WalkKit
import Derived.WalkSpells
import Derived.WalkLawsBesides
namespace Go.Proofs.Qxb6619398a
open Go.RowKit

/-- The three cells of each of the first n elements behind ⟨b, off⟩. -/
def Elems (w : World) (b off n : Nat) (R : Nat → ByteArray) (A : Nat → Bool) (D : Nat → ByteArray) : Prop :=
  ∀ i, i < n → w.cell? ⟨b, off + i * 3, none⟩ = some (.string (R i)) ∧ w.cell? ⟨b, off + i * 3 + 1, none⟩ = some (.bool (A i)) ∧ w.cell? ⟨b, off + i * 3 + 2, none⟩ = some (.string (D i))

/-- A bool comes back. -/
def SomeBool (e : Ending) : Prop := ∃ c : Bool, e = .returned (.bool c)

set_option maxHeartbeats 400000 in
theorem zzbytes_any (ao : Option Addr) (n cap : Nat) (cut : Int) (R : Nat → ByteArray) (A : Nat → Bool) (D : Nat → ByteArray) (hn : n ≤ maxLen) (w : World)
    (hv : n = 0 ∨ ∃ b off, ao = some ⟨b, off, none⟩ ∧ Elems w b off n R A D) :
    Calls Try.prog 4 #[.slice ao n cap, .int .i64 cut] w fun e w' => SomeBool e ∧ w = w' := by
  unfold maxLen at hn
  have HV : Hid _ := hv
  clear hv
  by_cases hb : (1048576 : Int) < (n : Int)
  · have hbd : decide ((1048576 : Int) < (n : Int)) = true := decide_eq_true hb
    go_enter Try.func4, Try.ntmps4
    go_wp2
    go_ret
    exact ⟨⟨_, rfl⟩, rfl⟩
  have hbd : decide ((1048576 : Int) < (n : Int)) = false := decide_eq_false hb
  go_enter Try.func4, Try.ntmps4
  go_wp2
  go_loop [5, 6] (fun z i => ∃ (k : Nat) (t : Int), k ≤ n ∧ i = .int .i64 k ∧ z = .int .i64 t) (fun _ i => n - (intOf i).toNat)
  case atStart => exact ⟨0, _, Nat.zero_le _, rfl, rfl⟩
  case round =>
    obtain ⟨k, t, hk, rfl, rfl⟩ := hrel
    by_cases hlt : k < n
    · rcases HV.out with h0 | ⟨b, off, rfl, hE⟩
      · omega
      obtain ⟨e1, e2, e3⟩ := hE k hlt
      clear hE HV
      go_wp2
      case roundEnd =>
        go_round
        case rel => exact ⟨k + 1, _, by omega, by go_num, rfl⟩
        case measure => simp [intOf]; omega
      all_goals (go_ret; exact ⟨⟨_, rfl⟩, rfl⟩)
    · go_wp2
      go_ret
      exact ⟨⟨_, rfl⟩, rfl⟩
end Go.Proofs.Qxb6619398a
