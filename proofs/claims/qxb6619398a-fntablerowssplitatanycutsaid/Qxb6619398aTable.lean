/-
  Seat b6619398a: the contract of check.table and of ZZTable.
-/
import Derived.Test.Qxb6619398aTabI
namespace Go.Proofs.Qxb6619398a
open Go.RowKit

set_option maxRecDepth 100000 in
set_option maxHeartbeats 1000000 in
theorem table_any (ao : Option Addr) (n cap : Nat) (R : Nat → ByteArray) (A : Nat → Bool) (D : Nat → ByteArray) (hn : n ≤ 65536) (w : World)
    (hv : n = 0 ∨ ∃ b off, ao = some ⟨b, off, none⟩ ∧ Elems w b off n R A D) :
    Calls Try.prog 9 #[.slice ao n cap] w fun e w' => ∃ ro rc q, e = .returned (.agg #[.slice (some ⟨w.heap.size + 1, 0, none⟩) 3 3, .slice ro n rc]) ∧ TabP R A D n (w.heap.size + 1) (.slice ro n rc) q w' ∧ Below w.heap.size w w' := by
  have HV : Hid _ := hv
  clear hv
  obtain ⟨i0, hi0, hz0, hz1, hz2⟩ := info_parts info36
  go_enter Try.func9, Try.ntmps9
  go_wp2
  go_loopw [14] (fun i wr => ∃ k ro rc q, k ≤ n ∧ i = .int .i64 (k : Nat) ∧ TabI w R A D k (.slice ro k rc) q wr) (fun i _ => n - (intOf i).toNat)
  case atStart => exact ⟨0, none, 0, _, Nat.zero_le _, rfl, tab_start w R A D⟩
  case round =>
    obtain ⟨k, ro, rc, q, hk, rfl, hT⟩ := hrel
    by_cases hlt : k < n
    · rcases HV.out with h0 | ⟨b, off, rfl, hE⟩
      · omega
      obtain ⟨e1, e2, e3⟩ := hE k hlt
      have hbl := World.block_lt_of_cell? w _ e1
      have f1 := (hT.bel.cell (p := ⟨b, off + k * 3, none⟩) hbl).trans e1
      have f2 := (hT.bel.cell (p := ⟨b, off + k * 3 + 1, none⟩) hbl).trans e2
      have f3 := (hT.bel.cell (p := ⟨b, off + k * 3 + 2, none⟩) hbl).trans e3
      have t1 : wr.cell? ⟨w.heap.size + 1 + 1, 1, none⟩ = some (.slice ro k rc) := cell_of_row wr _ 1 _ _ _ hT.tab
      have l1 : w.heap.size + 1 + 1 < wr.heap.size := lt_of_heap hT.tab
      have HT : Hid _ := hT
      clear hE HV e1 e2 e3 hT
      cases hA : A k with
      | true =>
        have hst : status (A k) = ⟨#[112, 97, 115, 115]⟩ := by rw [hA]; rfl
        have HS : Hid _ := hst
        have HB : Hid _ := hbl
        rw [hA] at f2
        clear hA hst
        go_wp2_with (at_builtin; refine wpList_append_lies _ rfl (.tmp 22) (.tmp 29) 31 rfl (w.heap.size + 3) 36 i0 (.slice none 0 0) 1 24 Try.underlying31 hi0 hz0 hz1 hz2 rfl (by omega) (.slice ro k rc) k (heads q k) rfl (by exact ((HT.out.own.alloc _).alloc _).alloc _) ⟨wr.heap.size + 1 + 1, 0, none⟩ 1 1 [.slice (some ⟨wr.heap.size + 1, 0, none⟩) 3 3] rfl rfl (by exact one_new wr _ _ _) (by simp [Value.oneCell']) (by omega) (by unfold maxLen; omega) (by omega) (by simp; omega) (wr.heap.size + 1 + 1 + 1) (by simp) ?_; intro g cap' w1 hown hgrow hat hlt'; have hm := tab_mid HT.out hgrow; have s1 : w1.cell? ⟨w.heap.size + 1 + 1, 1, none⟩ = some (.slice ro k rc) := cell_of_row w1 _ 1 _ _ _ hm; have s2 : w1.frozen? ⟨w.heap.size + 1 + 1, 1, none⟩ = false := frozen_of_row w1 _ 1 _ _ hm; have HN := tab_step HT.out HS.out hown hgrow; clear hm hown hgrow hat hlt')
        go_roundw
        case rel => exact ⟨k + 1, _, _, _, by omega, by go_num, HN⟩
        case measure => simp [intOf]; omega
      | false =>
        have hst : status (A k) = ⟨#[102, 97, 105, 108]⟩ := by rw [hA]; rfl
        have HS : Hid _ := hst
        have HB : Hid _ := hbl
        rw [hA] at f2
        clear hA hst
        go_wp2_with (at_builtin; refine wpList_append_lies _ rfl (.tmp 22) (.tmp 29) 31 rfl (w.heap.size + 3) 36 i0 (.slice none 0 0) 1 24 Try.underlying31 hi0 hz0 hz1 hz2 rfl (by omega) (.slice ro k rc) k (heads q k) rfl (by exact ((HT.out.own.alloc _).alloc _).alloc _) ⟨wr.heap.size + 1 + 1, 0, none⟩ 1 1 [.slice (some ⟨wr.heap.size + 1, 0, none⟩) 3 3] rfl rfl (by exact one_new wr _ _ _) (by simp [Value.oneCell']) (by omega) (by unfold maxLen; omega) (by omega) (by simp; omega) (wr.heap.size + 1 + 1 + 1) (by simp) ?_; intro g cap' w1 hown hgrow hat hlt'; have hm := tab_mid HT.out hgrow; have s1 : w1.cell? ⟨w.heap.size + 1 + 1, 1, none⟩ = some (.slice ro k rc) := cell_of_row w1 _ 1 _ _ _ hm; have s2 : w1.frozen? ⟨w.heap.size + 1 + 1, 1, none⟩ = false := frozen_of_row w1 _ 1 _ _ hm; have HN := tab_step HT.out HS.out hown hgrow; clear hm hown hgrow hat hlt')
        go_roundw
        case rel => exact ⟨k + 1, _, _, _, by omega, by go_num, HN⟩
        case measure => simp [intOf]; omega
    · have hkn : k = n := by omega
      subst hkn
      have c0 : wr.cell? ⟨w.heap.size + 1 + 1, 0, none⟩ = some (.slice (some ⟨w.heap.size + 1, 0, none⟩) 3 3) := cell_of_row wr _ 0 _ _ _ hT.tab
      have c1 : wr.cell? ⟨w.heap.size + 1 + 1, 1, none⟩ = some (.slice ro k rc) := cell_of_row wr _ 1 _ _ _ hT.tab
      have r0 : wr.cell? ⟨w.heap.size, 0, none⟩ = some (.slice none 0 0) := cell_of_row wr _ 0 _ _ _ hT.res
      have r1 : wr.cell? ⟨w.heap.size, 1, none⟩ = some (.slice none 0 0) := cell_of_row wr _ 1 _ _ _ hT.res
      have z0 : wr.frozen? ⟨w.heap.size, 0, none⟩ = false := frozen_of_row wr _ 0 _ _ hT.res
      have z1 : wr.frozen? ⟨w.heap.size, 1, none⟩ = false := frozen_of_row wr _ 1 _ _ hT.res
      have l1 : w.heap.size < wr.heap.size := lt_of_heap hT.res
      have HE : Hid _ := tab_end hT (.slice (some ⟨w.heap.size + 1, 0, none⟩) 3 3) (.slice ro k rc)
      clear hT HV
      go_wp2
      exact bodyPost_ret (v := .agg #[.slice (some ⟨w.heap.size + 1, 0, none⟩) 3 3, .slice ro k rc]) (by simp [results, Try.results9, go_sem, r0, r1]) rfl ⟨ro, rc, q, rfl, HE.out.1, HE.out.2⟩

/-- A store into a block of another kind leaves the table as it is. -/
theorem TabP.set {R : Nat → ByteArray} {A : Nat → Bool} {D : Nat → ByteArray} {n cb : Nat} {rv : Value} {q : Nat → Nat} {w' : World} (h : TabP R A D n cb rv q w') {x : Nat} {cs : Array Value} {t : TypeId} {fr : Nat × Nat} (hx : w'.heap[x]? = some (.cells cs t fr))
    (h1 : t ≠ 39) (h2 : t ≠ 36) (h3 : t ≠ 9) (j : Nat) (u : Value) : TabP R A D n cb rv q (w'.setCell ⟨x, j, none⟩ u) := by
  have other : ∀ (y : Nat) (cs' : Array Value) (t' : TypeId) (fr' : Nat × Nat), w'.heap[y]? = some (Obj.cells cs' t' fr') → t ≠ t' → (w'.setCell ⟨x, j, none⟩ u).heap[y]? = some (Obj.cells cs' t' fr') := by
    intro y cs' t' fr' hy ht
    have hne : y ≠ x := by
      intro he
      rw [he, hx] at hy
      simp at hy
      exact ht hy.2.1
    rw [heap_setCell_other _ _ _ _ (by simpa using hne)]
    exact hy
  refine ⟨other _ _ _ _ h.col h1, ⟨h.own.1, ?_⟩, fun i hi => other _ _ _ _ (h.row i hi) h3⟩
  rcases h.own.2 with h0 | ⟨g, cap, cur, a1, a2, a3, a4⟩
  · exact .inl h0
  · exact .inr ⟨g, cap, cur, a1, a2, other _ _ _ _ a3 h2, a4⟩

set_option maxRecDepth 100000 in
theorem zztable_any (ao : Option Addr) (n cap : Nat) (R : Nat → ByteArray) (A : Nat → Bool) (D : Nat → ByteArray) (hn : n ≤ 65536) (w : World)
    (hv : n = 0 ∨ ∃ b off, ao = some ⟨b, off, none⟩ ∧ Elems w b off n R A D) :
    Calls Try.prog 6 #[.slice ao n cap] w fun e w' => ∃ cb ro rc q, e = .returned (.agg #[.slice (some ⟨cb, 0, none⟩) 3 3, .slice ro n rc]) ∧ TabP R A D n cb (.slice ro n rc) q w' ∧ Below w.heap.size w w' := by
  have hv' : n = 0 ∨ ∃ b off, ao = some ⟨b, off, none⟩ ∧ Elems (w.alloc (.cells #[.slice none 0 0, .slice none 0 0] 33)) b off n R A D := by
    rcases hv with h0 | ⟨b, off, h1, hE⟩
    · exact .inl h0
    · exact .inr ⟨b, off, h1, hE.kept ((Below.refl w.heap.size w).alloc (Nat.le_refl _) _)⟩
  have HV : Hid _ := hv'
  clear hv hv'
  go_enter Try.func6, Try.ntmps6
  go_wp2_with fail
  refine (table_any ao n cap R A D hn _ HV.out).mono ?_
  rintro e w1 ⟨ro, rc, q, rfl, hT, hB⟩
  have hs : (w.alloc (.cells #[.slice none 0 0, .slice none 0 0] 33)).heap.size = w.heap.size + 1 := by simp
  rw [hs] at hT hB
  clear hs
  have hx : w1.heap[w.heap.size]? = some (.cells #[.slice none 0 0, .slice none 0 0] 33 (0, 0)) := (hB.block _ (by simp)).trans (heap_alloc_new w _)
  have r0 : w1.cell? ⟨w.heap.size, 0, none⟩ = some (.slice none 0 0) := cell_of_row w1 _ 0 _ _ _ hx
  have r1 : w1.cell? ⟨w.heap.size, 1, none⟩ = some (.slice none 0 0) := cell_of_row w1 _ 1 _ _ _ hx
  have z0 : w1.frozen? ⟨w.heap.size, 0, none⟩ = false := frozen_of_row w1 _ 0 _ _ hx
  have z1 : w1.frozen? ⟨w.heap.size, 1, none⟩ = false := frozen_of_row w1 _ 1 _ _ hx
  have l1 : w.heap.size < w1.heap.size := lt_of_heap hx
  have HE : Hid (TabP R A D n (w.heap.size + 1 + 1) (.slice ro n rc) q ((w1.setCell ⟨w.heap.size, 0, none⟩ (.slice (some ⟨w.heap.size + 1 + 1, 0, none⟩) 3 3)).setCell ⟨w.heap.size, 1, none⟩ (.slice ro n rc))) :=
    (hT.set hx (by decide) (by decide) (by decide) 0 _).set (heap_setCell_same w1 _ 0 _ _ _ hx) (by decide) (by decide) (by decide) 1 _
  have HB : Hid (Below w.heap.size w ((w1.setCell ⟨w.heap.size, 0, none⟩ (.slice (some ⟨w.heap.size + 1 + 1, 0, none⟩) 3 3)).setCell ⟨w.heap.size, 1, none⟩ (.slice ro n rc))) :=
    ((((Below.refl _ _).alloc (Nat.le_refl _) _).trans (hB.mono (by simp))).setCell (by simp) _).setCell (by simp) _
  clear hT hB hx HV
  go_wp2_with fail
  exact bodyPost_ret (v := .agg #[.slice (some ⟨w.heap.size + 1 + 1, 0, none⟩) 3 3, .slice ro n rc]) (by simp [results, Try.results6, go_sem, r0, r1]) rfl ⟨_, ro, rc, q, rfl, HE.out, HB.out⟩
end Go.Proofs.Qxb6619398a
