/-
  Seat b6619398a: the walk of the law.
-/
import Derived.Test.Qxb6619398aTable
import Derived.Deep.RegionHeld3
import Derived.StillTactics
import Derived.Laws.Pointers
namespace Go.Proofs.Qxb6619398a
open Go.RowKit

theorem info28 : (Try.prog.info? 28).map (fun i => (i.zero, i.size, i.bytes)) = some (some (.agg #[.string ⟨#[]⟩, .bool false, .string ⟨#[]⟩]), 3, 40) := by kernel_rfl

/-- The cells of the first k verdicts. -/
def vcells (R : Nat → ByteArray) (A : Nat → Bool) (D : Nat → ByteArray) (k : Nat) : List Value := (List.range k).flatMap fun j => [.string (R j), .bool (A j), .string (D j)]

theorem vcells_succ (R : Nat → ByteArray) (A : Nat → Bool) (D : Nat → ByteArray) (k : Nat) : vcells R A D (k + 1) = vcells R A D k ++ [.string (R k), .bool (A k), .string (D k)] := by
  unfold vcells
  rw [List.range_succ, List.flatMap_append]
  simp
theorem vcells_length (R : Nat → ByteArray) (A : Nat → Bool) (D : Nat → ByteArray) (k : Nat) : (vcells R A D k).length = k * 3 := by
  induction k with
  | zero => rfl
  | succ k ih => rw [vcells_succ, List.length_append, ih]; simp; omega
theorem vcells_at (R : Nat → ByteArray) (A : Nat → Bool) (D : Nat → ByteArray) (k i : Nat) (h : i < k) : (vcells R A D k)[i * 3]? = some (.string (R i)) ∧ (vcells R A D k)[i * 3 + 1]? = some (.bool (A i)) ∧ (vcells R A D k)[i * 3 + 2]? = some (.string (D i)) := by
  induction k with
  | zero => omega
  | succ k ih =>
    rw [vcells_succ]
    have hl := vcells_length R A D k
    by_cases e : i = k
    · subst e
      rw [List.getElem?_append_right (by omega), List.getElem?_append_right (by omega), List.getElem?_append_right (by omega), hl]
      simp
    · rw [List.getElem?_append_left (by omega), List.getElem?_append_left (by omega), List.getElem?_append_left (by omega)]
      exact ih (by omega)
/-- An owned row of verdicts, as elements. -/
theorem elems_of_own {w : World} {base g n cp : Nat} {R : Nat → ByteArray} {A : Nat → Bool} {D : Nat → ByteArray} (h : w.ownsRow base 28 3 (.slice (some ⟨g, 0, none⟩) n cp) n (vcells R A D n)) : Elems w g 0 n R A D := by
  intro i hi
  obtain ⟨h1, h2, h3⟩ := vcells_at R A D n i hi
  rw [Nat.zero_add]
  exact ⟨(h.cellAt _ (by omega)).trans h1, (h.cellAt _ (by omega)).trans h2, (h.cellAt _ (by omega)).trans h3⟩
theorem le_of_own {w : World} {base g n cp : Nat} {e : TypeId} {size : Nat} {xs : List Value} (h : w.ownsRow base e size (.slice (some ⟨g, 0, none⟩) n cp) n xs) : n ≤ cp := by
  rcases h.2 with ⟨h0, _⟩ | ⟨g', cap', cur, h1, _, _, h2, _⟩
  · simp at h0
  · simp at h1
    omega
theorem Elems.front {w : World} {b off n c : Nat} {R : Nat → ByteArray} {A : Nat → Bool} {D : Nat → ByteArray} (h : Elems w b off n R A D) (hc : c ≤ n) : Elems w b off c R A D := fun i hi => h i (by omega)
theorem Elems.back {w : World} {b n c : Nat} {R : Nat → ByteArray} {A : Nat → Bool} {D : Nat → ByteArray} (h : Elems w b 0 n R A D) (hc : c ≤ n) : Elems w b (c * 3) (n - c) (fun i => R (c + i)) (fun i => A (c + i)) (fun i => D (c + i)) := by
  intro i hi
  obtain ⟨h1, h2, h3⟩ := h (c + i) (by omega)
  have e : 0 + (c + i) * 3 = c * 3 + i * 3 := by omega
  rw [e] at h1 h2 h3
  exact ⟨h1, h2, h3⟩
theorem bel_two {w wr w2 : World} {o1 o2 : Obj} {g j cp : Nat} (h : Below w.heap.size w wr) (hg : ((wr.alloc o1).alloc o2).drew.grownBy w2 (Value.slice (some ⟨g, 0, none⟩) j cp).ownBlock) (hb : w.heap.size ≤ g) : Below w.heap.size w w2 := by
  have hs := h.size
  refine (((h.alloc hs o1).alloc (by simp; omega) o2).drew).grown hg (by simp; omega) (fun x hx => ?_)
  simp [Value.ownBlock] at hx
  omega
/-- What is owned stays owned behind two new blocks and a draw. -/
theorem own_two {w : World} {base n : Nat} {e : TypeId} {size : Nat} {v : Value} {xs : List Value} (h : w.ownsRow base e size v n xs) (o1 o2 : Obj) : ((w.alloc o1).alloc o2).drew.ownsRow base e size v n xs :=
  ((h.alloc o1).alloc o2).drew

/-- What is appended: the three cells of the last new block. -/
theorem vnew (wr : World) (o1 : Obj) (cs : Array Value) : ∀ j u', cs.toList[j]? = some u' → (((wr.alloc o1).alloc (.cells cs 28)).drew).cell? ((⟨wr.heap.size + 1, 0, none⟩ : Addr).add j) = some u' := by
  have h := heap_alloc_new (wr.alloc o1) (.cells cs 28)
  have e : (wr.alloc o1).heap.size = wr.heap.size + 1 := by simp
  rw [e] at h
  exact World.news_of_block (cs := cs) h

/-- 'all[cut:]': where it begins is a letter, but where nothing lies in it. -/
theorem slice_back (g j cp c : Nat) (hc : c ≤ j) (hj : j ≤ cp) : ∃ ad : Option Addr, (j - c = 0 ∨ ad = some ⟨g, c * 3, none⟩) ∧
    ∀ wx : World, (Instr.slice 26 (.slice (some ⟨g, 0, none⟩) j cp) (some (.int .i64 (c : Int))) none none).run Try.prog wx = .ok (.slice ad (j - c) (cp - c)) wx := by
  have h1 : (c : Int) ≤ (j : Int) := by omega
  by_cases e : cp = c
  · refine ⟨some ⟨g, 0, none⟩, .inl (by omega), fun wx => ?_⟩
    simp [go_sem, h1, e]
  · by_cases z : c = 0
    · subst z
      refine ⟨some ⟨g, 0, none⟩, .inr (by simp), fun wx => ?_⟩
      simp [go_sem, e, Addr.add]
    · refine ⟨some ⟨g, c * 3, none⟩, .inr rfl, fun wx => ?_⟩
      simp [go_sem, h1, e, Addr.add]
      omega

theorem cols_of {w : World} {cb : Nat} (h : w.heap[cb]? = some (.cells colCells 39 (0, 0))) : Cols w cb :=
  ⟨cell_of_row w cb 0 _ _ _ h, cell_of_row w cb 1 _ _ _ h, cell_of_row w cb 2 _ _ _ h, cell_of_row w cb 3 _ _ _ h, cell_of_row w cb 4 _ _ _ h, cell_of_row w cb 5 _ _ _ h, cell_of_row w cb 6 _ _ _ h, cell_of_row w cb 7 _ _ _ h, cell_of_row w cb 8 _ _ _ h⟩

theorem row_of {w : World} {b : Nat} {x y z : ByteArray} (h : w.heap[b]? = some (.cells #[.string x, .string y, .string z] 9 (0, 0))) : Row3 w b x y z :=
  ⟨cell_of_row w b 0 _ _ _ h, cell_of_row w b 1 _ _ _ h, cell_of_row w b 2 _ _ _ h⟩
theorem bel_draws {B : Nat} {a w : World} (h : Below B a w) (m : Nat) : Below B a (w.drewN m) := ⟨h.os, h.tape, h.output, h.size, h.block⟩
/-- A table's row i. -/
theorem tab_at {R : Nat → ByteArray} {A : Nat → Bool} {D : Nat → ByteArray} {n cb : Nat} {ro : Option Addr} {rc : Nat} {q : Nat → Nat} {w : World} (h : TabP R A D n cb (.slice ro n rc) q w) {i : Nat} (hi : i < n) :
    ∃ g, ro = some ⟨g, 0, none⟩ ∧ w.cell? ⟨g, i, none⟩ = some (.slice (some ⟨q i, 0, none⟩) 3 3) ∧ Row3 w (q i) (R i) (status (A i)) (D i) := by
  obtain ⟨g, cap, hv, _, _⟩ := h.own.form (by omega)
  simp only [Value.slice.injEq] at hv
  obtain ⟨rfl, _, rfl⟩ := hv
  refine ⟨g, rfl, (h.own.cellAt i (by omega)).trans ?_, row_of (h.row i hi)⟩
  simp [heads, hi]

/-- What stands behind the three calls of ZZTable. -/
structure Three (w : World) (R : Nat → ByteArray) (A : Nat → Bool) (D : Nat → ByteArray) (n c cb1 cb2 cb3 : Nat) (ro1 ro2 ro3 : Option Addr) (rc1 rc2 rc3 : Nat) (q1 q2 q3 : Nat → Nat) (B1 B2 B3 : Nat) (W : World) : Prop where
  t1 : TabP R A D n cb1 (.slice ro1 n rc1) q1 W
  t2 : TabP R A D c cb2 (.slice ro2 c rc2) q2 W
  t3 : TabP (fun i => R (c + i)) (fun i => A (c + i)) (fun i => D (c + i)) (n - c) cb3 (.slice ro3 (n - c) rc3) q3 W
  b1 : W.heap[B1]? = some (.cells #[.slice (some ⟨cb1, 0, none⟩) 3 3, .slice ro1 n rc1] 33 (0, 0))
  b2 : W.heap[B2]? = some (.cells #[.slice (some ⟨cb2, 0, none⟩) 3 3, .slice ro2 c rc2] 33 (0, 0))
  b3 : W.heap[B3]? = some (.cells #[.slice (some ⟨cb3, 0, none⟩) 3 3, .slice ro3 (n - c) rc3] 33 (0, 0))
  bel : Below w.heap.size w W

theorem three {w wr y1 y2 y3 : World} {R : Nat → ByteArray} {A : Nat → Bool} {D : Nat → ByteArray} {n c cb1 cb2 cb3 : Nat} {ro1 ro2 ro3 : Option Addr} {rc1 rc2 rc3 : Nat} {q1 q2 q3 : Nat → Nat}
    (hb : Below w.heap.size w wr) (h1 : Below wr.heap.size wr y1) (t1 : TabP R A D n cb1 (.slice ro1 n rc1) q1 y1)
    (h2 : Below (y1.alloc (.cells #[.slice (some ⟨cb1, 0, none⟩) 3 3, .slice ro1 n rc1] 33)).heap.size (y1.alloc (.cells #[.slice (some ⟨cb1, 0, none⟩) 3 3, .slice ro1 n rc1] 33)) y2) (t2 : TabP R A D c cb2 (.slice ro2 c rc2) q2 y2)
    (h3 : Below (y2.alloc (.cells #[.slice (some ⟨cb2, 0, none⟩) 3 3, .slice ro2 c rc2] 33)).heap.size (y2.alloc (.cells #[.slice (some ⟨cb2, 0, none⟩) 3 3, .slice ro2 c rc2] 33)) y3) (t3 : TabP (fun i => R (c + i)) (fun i => A (c + i)) (fun i => D (c + i)) (n - c) cb3 (.slice ro3 (n - c) rc3) q3 y3) :
    Three w R A D n c cb1 cb2 cb3 ro1 ro2 ro3 rc1 rc2 rc3 q1 q2 q3 y1.heap.size y2.heap.size y3.heap.size (y3.alloc (.cells #[.slice (some ⟨cb3, 0, none⟩) 3 3, .slice ro3 (n - c) rc3] 33)) := by
  have s1 : (y1.alloc (.cells #[.slice (some ⟨cb1, 0, none⟩) 3 3, .slice ro1 n rc1] 33)).heap.size = y1.heap.size + 1 := by simp
  have s2 : (y2.alloc (.cells #[.slice (some ⟨cb2, 0, none⟩) 3 3, .slice ro2 c rc2] 33)).heap.size = y2.heap.size + 1 := by simp
  have z2 := h2.size
  have z3 := h3.size
  have a1 : Below y1.heap.size y1 (y1.alloc (.cells #[.slice (some ⟨cb1, 0, none⟩) 3 3, .slice ro1 n rc1] 33)) := (Below.refl _ _).alloc (Nat.le_refl _) _
  have a2 : Below y2.heap.size y2 (y2.alloc (.cells #[.slice (some ⟨cb2, 0, none⟩) 3 3, .slice ro2 c rc2] 33)) := (Below.refl _ _).alloc (Nat.le_refl _) _
  have a3 : Below y3.heap.size y3 (y3.alloc (.cells #[.slice (some ⟨cb3, 0, none⟩) 3 3, .slice ro3 (n - c) rc3] 33)) := (Below.refl _ _).alloc (Nat.le_refl _) _
  have g1 := (((t1.kept a1).kept h2).kept a2).kept h3
  have g2 := (t2.kept a2).kept h3
  refine ⟨g1.kept a3, g2.kept a3, t3.kept a3, ?_, ?_, heap_alloc_new y3 _, ?_⟩
  · rw [a3.block _ (by omega), h3.block _ (by omega), a2.block _ (by omega), h2.block _ (by omega)]
    exact heap_alloc_new y1 _
  · rw [a3.block _ (by omega), h3.block _ (by omega)]
    exact heap_alloc_new y2 _
  · have k1 := hb.size
    have k2 := h1.size
    exact ((((((hb.trans (h1.mono k1)).trans (a1.mono (by omega))).trans (h2.mono (by omega))).trans (a2.mono (by omega))).trans (h3.mono (by omega))).trans (a3.mono (by omega)))

set_option maxRecDepth 100000 in
set_option maxHeartbeats 3200000 in
theorem main_any (ao : Option Addr) (n cap : Nat) (cut : Int) (R : Nat → ByteArray) (A : Nat → Bool) (D : Nat → ByteArray) (hn : n ≤ maxLen) (w : World)
    (hv : n = 0 ∨ ∃ b off, ao = some ⟨b, off, none⟩ ∧ Elems w b off n R A D) :
    Calls Try.prog 3 #[.slice ao n cap, .int .i64 cut] w fun e w' => e = .returned (.bool true) ∧ Below w.heap.size w w' := by
  have HV : Hid _ := hv
  have HN : Hid _ := hn
  unfold maxLen at hn
  clear hv
  obtain ⟨i0, hi0, hz0, hz1, hz2⟩ := info_parts info28
  by_cases hb : (65536 : Int) < (n : Int)
  · have hbd : decide ((65536 : Int) < (n : Int)) = true := decide_eq_true hb
    go_enter Try.func3, Try.ntmps3
    go_wp2_with fail
    refine (zzbytes_any ao n cap cut R A D HN.out _ HV.out).mono ?_
    rintro e w' ⟨⟨c, rfl⟩, rfl⟩
    cases c with
    | false =>
      go_wp2_with fail
      go_ret
      exact ⟨rfl, Below.refl _ _⟩
    | true =>
      go_wp2_with fail
      go_ret
      exact ⟨rfl, Below.refl _ _⟩
  have hbd : decide ((65536 : Int) < (n : Int)) = false := decide_eq_false hb
  go_enter Try.func3, Try.ntmps3
  go_wp2_with fail
  refine (zzbytes_any ao n cap cut R A D HN.out _ HV.out).mono ?_
  rintro e w' ⟨⟨c, rfl⟩, rfl⟩
  cases c with
  | false =>
    go_wp2_with fail
    go_ret
    exact ⟨rfl, Below.refl _ _⟩
  | true =>
    go_wp2_with fail
    go_loop [5, 6] (fun z i => ∃ (k : Nat) (t : Int), k ≤ n ∧ i = .int .i64 k ∧ z = .int .i64 t) (fun _ i => n - (intOf i).toNat)
    case atStart => exact ⟨0, _, Nat.zero_le _, rfl, rfl⟩
    case round =>
      obtain ⟨k, t, hk, rfl, rfl⟩ := hrel
      by_cases hlt : k < n
      · rcases HV.out with h0 | ⟨b, off, rfl, hE⟩
        · omega
        obtain ⟨e1, e2, e3⟩ := hE k hlt
        clear hE HV
        go_wp2
        case roundEnd =>
          go_round
          case rel => exact ⟨k + 1, _, by omega, by go_num, rfl⟩
          case measure => simp [intOf]; omega
        all_goals (go_ret; exact ⟨rfl, Below.refl _ _⟩)
      · by_cases hc0 : cut < 0
        · have hcd : decide (cut < 0) = true := decide_eq_true hc0
          go_wp2
          go_ret
          exact ⟨rfl, Below.refl _ _⟩
        have hcd : decide (cut < 0) = false := decide_eq_false hc0
        by_cases hc1 : (n : Int) < cut
        · have hcd1 : decide ((n : Int) < cut) = true := decide_eq_true hc1
          go_wp2
          go_ret
          exact ⟨rfl, Below.refl _ _⟩
        have hcd1 : decide ((n : Int) < cut) = false := decide_eq_false hc1
        obtain ⟨c, rfl⟩ := Int.eq_ofNat_of_zero_le (show 0 ≤ cut by omega)
        go_wp2_with (at_make; go_must (refine wpList_make_own _ rfl _ _ 26 rfl w.heap.size 28 i0 (.agg #[.string ⟨#[]⟩, .bool false, .string ⟨#[]⟩]) 3 Try.underlying26 hi0 hz0 hz1 .i64 .i64 _ n rfl rfl (by omega) (by rw [hz2]; omega) (by unfold maxLen; omega) (Nat.le_refl _) ?_); intro w1 hown hgrow)
        go_loopw [7, 8] (fun v i wr => ∃ k g cp, k ≤ n ∧ i = .int .i64 (k : Nat) ∧ v = .slice (some ⟨g, 0, none⟩) k cp ∧ wr.ownsRow w.heap.size 28 3 (.slice (some ⟨g, 0, none⟩) k cp) k (vcells R A D k) ∧ Below w.heap.size w wr) (fun _ i _ => n - (intOf i).toNat)
        case atStart => exact ⟨0, w.heap.size, n, Nat.zero_le _, rfl, rfl, hown, (Below.refl _ _).grown hgrow (Nat.le_refl _) (fun x hx => by cases hx)⟩
        case round =>
          clear hown hgrow
          obtain ⟨j, g, cp, hj, rfl, rfl, hown, hbel⟩ := hrel
          by_cases hjn : j < n
          · rcases HV.out with h0 | ⟨b, off, rfl, hE⟩
            · omega
            obtain ⟨e1, e2, e3⟩ := hE j hjn
            have hbl : b < w.heap.size := World.block_lt_of_cell? w _ e1
            have f1 := (hbel.cell (p := ⟨b, off + j * 3, none⟩) hbl).trans e1
            have f2 := (hbel.cell (p := ⟨b, off + j * 3 + 1, none⟩) hbl).trans e2
            have f3 := (hbel.cell (p := ⟨b, off + j * 3 + 2, none⟩) hbl).trans e3
            have hsz := hbel.size
            have lb : b < wr.heap.size := by omega
            have gb := own_base hown g rfl
            have HO : Hid (wr.ownsRow w.heap.size 28 3 (.slice (some ⟨g, 0, none⟩) j cp) j (vcells R A D j)) := hown
            have HBL : Hid (Below w.heap.size w wr) := hbel
            have i1 : (0 : Int) ≤ (j : Int) := by omega
            have i2 : (j : Int) < (n : Int) := by omega
            clear hE HV e1 e2 e3 hown hbel
            go_wp2_with fail
            go_region_held3 (fun w' => w'.cell? ⟨b, off + j * 3, none⟩ = some (.string (R j)) ∧ w'.cell? ⟨b, off + j * 3 + 1, none⟩ = some (.bool (A j)) ∧ w'.cell? ⟨b, off + j * 3 + 2, none⟩ = some (.string (D j)))
              (first | (simp [go_sem, World.cell?_alloc_past, f1, f2, f3, lb]; done) | (go_split_ands; refine ⟨?_, ?_, ?_⟩ <;> (rw [hgrow2.cell_far _ (by simp; omega) (by simp [Value.ownBlock]; omega)]; assumption)))
              (first | (go_at_call 5; refine (zzverdict_any (R j) (A j) (D j) _).mono ?_; rintro e w' ⟨rfl, rfl⟩) | (refine step_append_lies _ (by rfl) _ _ _ (by rfl) w.heap.size 28 i0 _ 3 40 Try.underlying26 hi0 hz0 hz1 hz2 rfl (by omega) (.slice (some ⟨g, 0, none⟩) j cp) j (vcells R A D j) (by rfl) (by exact own_two (HO : wr.ownsRow w.heap.size 28 3 (.slice (some ⟨g, 0, none⟩) j cp) j (vcells R A D j)) _ _) ⟨wr.heap.size + 1, 0, none⟩ 1 1 [.string (R j), .bool (A j), .string (D j)] (by rfl) (by rfl) (by exact vnew wr _ _) (by simp [Value.oneCell']) (by omega) (by unfold maxLen; omega) (by omega) (by simp; omega) (wr.heap.size + 1 + 1) (by simp) ?_; intro g2 cp2 w2 hown2 hgrow2 hat2 hlt2))
            have hnew : w2.ownsRow w.heap.size 28 3 (.slice (some ⟨g2, 0, none⟩) (j + 1) cp2) (j + 1) (vcells R A D (j + 1)) := by rw [vcells_succ]; exact hown2
            have HW : Hid (w2.ownsRow w.heap.size 28 3 (.slice (some ⟨g2, 0, none⟩) (j + 1) cp2) (j + 1) (vcells R A D (j + 1))) := hnew
            have HB2 : Hid (Below w.heap.size w w2) := bel_two HBL hgrow2 gb
            clear f1 f2 f3 hown2 hgrow2 hat2 hlt2 hnew
            go_wp2_with fail
            go_roundw
            case rel => exact ⟨j + 1, g2, cp2, by omega, by go_num, by go_num, HW, HB2⟩
            case measure => simp [intOf]; omega
          · have hjn' : j = n := by omega
            subst hjn'
            have hel := elems_of_own hown
            have hcp := le_of_own hown
            have hcn : c ≤ j := by omega
            have hj6 : j ≤ 65536 := by omega
            have HEL : Hid (Elems wr g 0 j R A D) := hel
            obtain ⟨ad, had, hsl⟩ := slice_back g j cp c hcn hcp
            have HAD : Hid (j - c = 0 ∨ ad = some ⟨g, c * 3, none⟩) := had
            clear had
            have HBL : Hid (Below w.heap.size w wr) := hbel
            clear hel hown hbel
            go_wp2_with fail
            refine (zztable_any (some ⟨g, 0, none⟩) j cp R A D hj6 _ (.inr ⟨g, 0, rfl, HEL.out⟩)).mono ?_
            rintro e y1 ⟨cb1, ro1, rc1, q1, rfl, hT1, hB1⟩
            have HT1 : Hid (TabP R A D j cb1 (.slice ro1 j rc1) q1 y1) := hT1
            have HB1 : Hid (Below wr.heap.size wr y1) := hB1
            clear hT1 hB1
            go_wp2_with fail
            refine (zztable_any (some ⟨g, 0, none⟩) c cp R A D (by omega) _ (.inr ⟨g, 0, rfl, ?_⟩)).mono ?_
            · exact (HEL.out.kept (HB1.out.alloc HB1.out.size _)).front hcn
            rintro e y2 ⟨cb2, ro2, rc2, q2, rfl, hT2, hB2⟩
            have HT2 : Hid (TabP R A D c cb2 (.slice ro2 c rc2) q2 y2) := hT2
            have HB2 : Hid (Below (y1.alloc (.cells #[.slice (some ⟨cb1, 0, none⟩) 3 3, .slice ro1 j rc1] 33)).heap.size (y1.alloc (.cells #[.slice (some ⟨cb1, 0, none⟩) 3 3, .slice ro1 j rc1] 33)) y2) := hB2
            clear hT2 hB2
            go_wp2_with fail
            refine (zztable_any ad (j - c) (cp - c) (fun i => R (c + i)) (fun i => A (c + i)) (fun i => D (c + i)) (by omega) _ ?_).mono ?_
            · rcases HAD.out with h0 | h0
              · exact .inl h0
              · refine .inr ⟨g, c * 3, h0, ?_⟩
                have k1 : Below wr.heap.size wr (y1.alloc (.cells #[.slice (some ⟨cb1, 0, none⟩) 3 3, .slice ro1 j rc1] 33)) := HB1.out.alloc HB1.out.size _
                have k2 := k1.trans (HB2.out.mono k1.size)
                exact (HEL.out.kept (k2.alloc k2.size _)).back hcn
            rintro e y3 ⟨cb3, ro3, rc3, q3, rfl, hT3, hB3⟩
            have H3 : Hid _ := three HBL.out HB1.out HT1.out HB2.out HT2.out hB3 hT3
            clear hT3 hB3 HT1 HT2 HB1 HB2 HBL HEL HAD hsl
            have c10 := cell_of_row _ _ 0 _ _ _ H3.out.b1
            have c11 := cell_of_row _ _ 1 _ _ _ H3.out.b1
            have c20 := cell_of_row _ _ 0 _ _ _ H3.out.b2
            have c21 := cell_of_row _ _ 1 _ _ _ H3.out.b2
            have c30 := cell_of_row _ _ 0 _ _ _ H3.out.b3
            have c31 := cell_of_row _ _ 1 _ _ _ H3.out.b3
            simp only [List.getElem?_toArray, List.getElem?_cons_zero, List.getElem?_cons_succ] at c10 c11 c20 c21 c30 c31
            go_wp2_with fail
            refine (zzcols_any cb1 _ (by exact cols_of H3.out.t1.col)).mono ?_
            rintro e z1 ⟨rfl, rfl⟩
            go_wp2_with fail
            refine (zzcols_any cb2 _ (by exact cols_of H3.out.t2.col)).mono ?_
            rintro e z2 ⟨rfl, rfl⟩
            go_wp2_with fail
            refine (zzcols_any cb3 _ (by exact cols_of H3.out.t3.col)).mono ?_
            rintro e z3 ⟨rfl, rfl⟩
            have hne0 : (((j - c : Nat) : Int) != (j : Int) - (c : Int)) = false := by rw [bne_eq_false_iff_eq]; omega
            go_wp2_with fail
            generalize hW3 : y3.alloc (.cells #[.slice (some ⟨cb3, 0, none⟩) 3 3, .slice ro3 (j - c) rc3] 33) = W3 at *
            generalize y1.heap.size = B1 at *
            generalize y2.heap.size = B2 at *
            generalize y3.heap.size = B3 at *
            clear hW3
            go_loopw [12] (fun i wr => ∃ k m, k ≤ j ∧ i = .int .i64 (k : Nat) ∧ wr = W3.drewN m) (fun i _ => j - (intOf i).toNat)
            case atStart => exact ⟨0, 0, Nat.zero_le _, rfl, rfl⟩
            case round =>
              obtain ⟨k', m, hk', rfl, rfl⟩ := hrel
              by_cases hkj : k' < j
              · rcases HV.out with h0 | ⟨b, off, rfl, hE⟩
                · omega
                obtain ⟨f1, f2, f3⟩ := (hE.kept H3.out.bel) k' hkj
                obtain ⟨g1, rfl, h11, h12⟩ := tab_at H3.out.t1 hkj
                have HR1 : Hid (Row3 W3 (q1 k') (R k') (status (A k')) (D k')) := h12
                obtain ⟨r0, r1, r2⟩ := h12
                clear hE HV
                cases hA : A k' with
                | true =>
                  have hst : status (A k') = ⟨#[112, 97, 115, 115]⟩ := by rw [hA]; rfl
                  rw [hst] at r1
                  rw [hA] at f2
                  clear hst hA
                  by_cases hkc : k' < c
                  · obtain ⟨g2, rfl, h21, h22⟩ := tab_at H3.out.t2 hkc
                    have HR2 : Hid (Row3 W3 (q2 k') (R k') (status (A k')) (D k')) := h22
                    clear h22
                    go_wp2_with fail
                    go_quiet (fail)
                    go_wp2_with fail
                    refine (zzsame_any (q1 k') (q2 k') (R k') (status (A k')) (D k') _ (by exact HR1.out) (by exact HR2.out)).mono ?_
                    rintro e z4 ⟨rfl, m4, rfl⟩
                    go_wp2_with fail
                    go_roundw
                    case rel => exact ⟨k' + 1, _, by omega, by go_num, rfl⟩
                    case measure => simp [intOf]; omega
                  · obtain ⟨g3, rfl, h31, h32⟩ := tab_at H3.out.t3 (show k' - c < j - c by omega)
                    have hck : c + (k' - c) = k' := by omega
                    rw [hck] at h32
                    clear hck
                    have HR3 : Hid (Row3 W3 (q3 (k' - c)) (R k') (status (A k')) (D k')) := h32
                    clear h32
                    have it : ((k' : Int) - (c : Int)).toNat = k' - c := by omega
                    have il : (k' : Int) - (c : Int) < ((j - c : Nat) : Int) := by omega
                    go_wp2_with fail
                    go_quiet (fail)
                    go_wp2_with fail
                    refine (zzsame_any (q1 k') (q3 (k' - c)) (R k') (status (A k')) (D k') _ (by exact HR1.out) (by exact HR3.out)).mono ?_
                    rintro e z4 ⟨rfl, m4, rfl⟩
                    go_wp2_with fail
                    go_roundw
                    case rel => exact ⟨k' + 1, _, by omega, by go_num, rfl⟩
                    case measure => simp [intOf]; omega
                | false =>
                  have hst : status (A k') = ⟨#[102, 97, 105, 108]⟩ := by rw [hA]; rfl
                  rw [hst] at r1
                  rw [hA] at f2
                  clear hst hA
                  by_cases hkc : k' < c
                  · obtain ⟨g2, rfl, h21, h22⟩ := tab_at H3.out.t2 hkc
                    have HR2 : Hid (Row3 W3 (q2 k') (R k') (status (A k')) (D k')) := h22
                    clear h22
                    go_wp2_with fail
                    go_quiet (fail)
                    go_wp2_with fail
                    refine (zzsame_any (q1 k') (q2 k') (R k') (status (A k')) (D k') _ (by exact HR1.out) (by exact HR2.out)).mono ?_
                    rintro e z4 ⟨rfl, m4, rfl⟩
                    go_wp2_with fail
                    go_roundw
                    case rel => exact ⟨k' + 1, _, by omega, by go_num, rfl⟩
                    case measure => simp [intOf]; omega
                  · obtain ⟨g3, rfl, h31, h32⟩ := tab_at H3.out.t3 (show k' - c < j - c by omega)
                    have hck : c + (k' - c) = k' := by omega
                    rw [hck] at h32
                    clear hck
                    have HR3 : Hid (Row3 W3 (q3 (k' - c)) (R k') (status (A k')) (D k')) := h32
                    clear h32
                    have it : ((k' : Int) - (c : Int)).toNat = k' - c := by omega
                    have il : (k' : Int) - (c : Int) < ((j - c : Nat) : Int) := by omega
                    go_wp2_with fail
                    go_quiet (fail)
                    go_wp2_with fail
                    refine (zzsame_any (q1 k') (q3 (k' - c)) (R k') (status (A k')) (D k') _ (by exact HR1.out) (by exact HR3.out)).mono ?_
                    rintro e z4 ⟨rfl, m4, rfl⟩
                    go_wp2_with fail
                    go_roundw
                    case rel => exact ⟨k' + 1, _, by omega, by go_num, rfl⟩
                    case measure => simp [intOf]; omega
              · go_wp2_with fail
                go_ret
                exact ⟨rfl, bel_draws H3.out.bel m⟩
end Go.Proofs.Qxb6619398a
