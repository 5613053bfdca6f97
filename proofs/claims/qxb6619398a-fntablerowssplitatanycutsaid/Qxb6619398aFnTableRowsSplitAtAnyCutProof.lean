/-
  A PROOF OF 'Rows.FnTableRowsSplitAtAnyCutSaid' ('example.com/vestwright/vestwright/zzlaws_internal_check_b1.FnTableRowsSplitAtAnyCut'), WRITTEN BY PROGRAM (proof-skeleton.mjs, third state) off the guide's own print for that function. Not trusted: Lean checks it.
  The tool serves slices of integers; the opening of a slice of structs is typed by hand here.
-/
import Derived.Test.Qxb6619398aRows
import Derived.Test.Qxb6619398aMain
import Derived.Deep.Slices
import Derived.Deep.Strs
import Derived.WalkKit
import Derived.ProofKit
import Derived.OpenShut
import Derived.ShutString
import Derived.ChangeOld
import Derived.Below
namespace Go.Proofs.Qxb6619398a.fnTableRowsSplitAtAnyCut
open Go.ChangeShapes Go.WideShapes Go.ChangeAt Go.RowKit
open Go.ChangeMaps (open_string shut_string)
set_option linter.unusedVariables false

theorem own : ownKnob Try.prog.godebug = none := by kernel_rfl
theorem laidOut : laidOutB Try.prog = true := by kernel_rfl

theorem cells25 : Try.prog.cellsOf 25 = 3 := by kernel_rfl
theorem cells9 : Try.prog.cellsOf 9 = 1 := by kernel_rfl
theorem cells4 : Try.prog.cellsOf 4 = 1 := by kernel_rfl

/-- A slice of V that came in: nil or empty; or its elements' cells. -/
theorem open_vs {H : Type} {enc : TypeId × Value → H} {W : World} {base : Nat} {held : Bool} {fuel : Nat} {a0 : Option Addr} {len0 cap0 : Nat} {x : DataW H × List MemPlace}
    (h : DataW.trod enc Try.prog W base (fun _ => true) held fuel 22 [.slice a0 len0 cap0] = some x) :
    ∃ R A D, len0 ≤ maxLen ∧ (len0 = 0 ∨ ∃ b off, a0 = some ⟨b, off, none⟩ ∧ Elems W b off len0 R A D) := by
  rcases Deep.open_slice Try.underlying22 h with ⟨hcs, _⟩ | ⟨a, len, cap, m, n, Dd, Pl, hcs, _, hl, hm, hmm, _, hx⟩
  · simp at hcs
    obtain ⟨rfl, rfl, rfl⟩ := hcs
    exact ⟨fun _ => ⟨#[]⟩, fun _ => false, fun _ => ⟨#[]⟩, Nat.zero_le _, .inl rfl⟩
  · simp at hcs
    obtain ⟨rfl, rfl, rfl⟩ := hcs
    simp at hmm
    subst hmm
    rw [cells25] at hx
    have each : ∀ i, i < len0 → ∃ t : ByteArray × Bool × ByteArray, W.cell? (a.add (i * 3)) = some (.string t.1) ∧ W.cell? (a.add (i * 3 + 1)) = some (.bool t.2.1) ∧ W.cell? (a.add (i * 3 + 2)) = some (.string t.2.2) := by
      intro i hi
      obtain ⟨cs', h1, h2⟩ := hx i (by omega)
      obtain ⟨_, hlen, hcell⟩ := World.cells?_some h1
      obtain ⟨y0, y1, y2, n', _, _, g0, g1, g2⟩ := Deep.trod_struct3 Try.underlying25 h2
      match cs', hlen with
      | [c0, c1, c2], _ =>
        simp [cells9, cells4] at g0 g1 g2
        obtain ⟨s0, e0, _, _⟩ := DataW.trod_string Try.underlying9 g0
        obtain ⟨b1, e1, _⟩ := DataW.trod_bool Try.underlying4 g1
        obtain ⟨s2, e2, _, _⟩ := DataW.trod_string Try.underlying9 g2
        simp at e0 e1 e2
        subst e0 e1 e2
        have k0 := hcell 0 (by omega)
        have k1 := hcell 1 (by omega)
        have k2 := hcell 2 (by omega)
        rw [Deep.add_add] at k0 k1 k2
        exact ⟨(s0, b1, s2), by simpa using k0, by simpa using k1, by simpa using k2⟩
    by_cases hz : len0 = 0
    · exact ⟨fun _ => ⟨#[]⟩, fun _ => false, fun _ => ⟨#[]⟩, by omega, .inl hz⟩
    obtain ⟨b, off, spot⟩ := a
    have hspot : spot = none := by
      obtain ⟨t, ht, _⟩ := each 0 (by omega)
      simpa [Addr.add] using World.cell?_spot ht
    subst hspot
    have each' : ∀ i, i < len0 → ∃ t : ByteArray × Bool × ByteArray, W.cell? ⟨b, off + i * 3, none⟩ = some (.string t.1) ∧ W.cell? ⟨b, off + i * 3 + 1, none⟩ = some (.bool t.2.1) ∧ W.cell? ⟨b, off + i * 3 + 2, none⟩ = some (.string t.2.2) := by
      intro i hi
      obtain ⟨t, ht⟩ := each i hi
      rw [add_plain, add_plain, add_plain] at ht
      exact ⟨t, ht⟩
    obtain ⟨t, ht⟩ := Deep.choose_lt each'
    exact ⟨fun i => (t i).1, fun i => (t i).2.1, fun i => (t i).2.2, by omega, .inr ⟨b, off, rfl, ht⟩⟩

/-! ### THE ROW's STEP: WRITTEN OUT: LEAVE IT -/
set_option maxRecDepth 100000 in
theorem lifted (os : Os) (started : os.Started) (H : Type) (enc : TypeId × Value → H) :
    ReturnsInHanded {} Try.checked os 3 .any (Rows.fnTableRowsSplitAtAnyCutSpec.pre6 enc Try.prog Try.f3 Rows.fnTableRowsSplitAtAnyCutRow.domain false) (Rows.fnTableRowsSplitAtAnyCutSpec.post enc Try.prog Try.f3 false true false false) := by
  refine returnsInHanded_of_change (C := Try.checked) own started (by kernel_rfl) Try.func3
    (ChangeSpec.witness6 (enc := enc) (C := Try.checked) false ⟨#[], #[.slice none 0 0, .int .i64 0], []⟩ 8 (by kernel_rfl) (by kernel_rfl) (by kernel_rfl) (by kernel_rfl)) ?_
  intro W base args ds gs before hval0 hW hcnd _
  have hval : ∀ (j : Nat) t v, Try.f3.params[j]? = some t → args[j]? = some v → Value.okWide Try.prog W .any base t v := hval0
  have hW' := hW
  obtain ⟨p, q, hA0, hV, rfl, hfz, hnd⟩ := hW
  have hA : DataW.TrodAll enc Try.prog W 0 (fun _ => true) true Try.f3.params.toList args.toList ds p := hA0
  rw [Try.params3] at hA hval
  obtain ⟨v0, vs0, d0, ds0, p0, q0, hargs, rfl, rfl, h0, r0⟩ := trodAll_cons hA
  obtain ⟨v1, vs1, d1, ds1, p1, q1, rfl, rfl, rfl, h1, r1⟩ := trodAll_cons r0
  obtain ⟨rfl, rfl, rfl⟩ := trodAll_nil r1
  obtain rfl : args = #[v0, v1] := by cases args; simp_all
  obtain ⟨rfl, rfl⟩ := trodVars_none hV
  obtain ⟨a0, len0, cap0, rfl⟩ := okWide_slice Try.underlying22 (hval 0 22 v0 rfl rfl)
  have k0 := h0
  have lt0 : ∀ x ∈ p0, x.block < W.heap.size := by obtain ⟨m, hm⟩ := k0; exact DataW.trod_lt m _ _ _ hm
  obtain ⟨R, A, D, hmax, w0⟩ : ∃ R A D, len0 ≤ maxLen ∧ (len0 = 0 ∨ ∃ b off, a0 = some ⟨b, off, none⟩ ∧ Elems W b off len0 R A D) := by
    obtain ⟨fuel, hf⟩ := h0
    exact open_vs (by simpa [Value.cells] using hf)
  obtain ⟨a1, rfl, rfl, rfl, w1⟩ := open_int Try.underlying3 (hval 1 3 v1 rfl rfl) h1
  clear hA0 hval0
  refine (main_any a0 len0 cap0 a1 R A D hmax W w0).mono fun e W' ⟨he, bel⟩ => ?_
  subst he
  exact ⟨_, rfl, _, _, _, [], _, [], hW', trodAll_mk1 (shut_bool Try.underlying4 _), (trodAll_cons_mk (Below.trod laidOut (by kernel_rfl) (of_decide_eq_true (by kernel_rfl)) k0 bel lt0) (trodAll_cons_mk (shut_int Try.underlying3 w1) trodAll_mk0)), rfl, bel.frame _, fun h => by cases h⟩

theorem over : Rows.fnTableRowsSplitAtAnyCutRow.holds Try.pinned (OpenSpec.ofChange Rows.fnTableRowsSplitAtAnyCutSpec) :=
  OpenClaim.holds_of_wide 3 Try.f3 rfl rfl rfl rfl rfl rfl rfl ⟨rfl, rfl, rfl, rfl, rfl⟩ rfl rfl rfl rfl rfl (by kernel_rfl) Try.func3 (by kernel_rfl)
    (of_decide_eq_true (by kernel_rfl)) (by unfold Func.isWrapper; first | (rw [if_pos (by decide +kernel)]; kernel_rfl) | (rw [if_neg (by decide +kernel)]; exact ⟨rfl, rfl⟩))
    (fun os started H enc _ => lifted os started H enc)

/-- ████ THE STATEMENT ████ -/
theorem proved : Rows.FnTableRowsSplitAtAnyCutSaid := over
#print axioms proved
end Go.Proofs.Qxb6619398a.fnTableRowsSplitAtAnyCut
