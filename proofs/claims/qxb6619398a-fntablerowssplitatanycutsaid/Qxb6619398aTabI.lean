/-
  Seat b6619398a: what check.table has made of the first k verdicts; what one round does to it. No walk here.
-/
import Derived.Test.Qxb6619398aSmall
import Derived.Deep.AppendLies
namespace Go.Proofs.Qxb6619398a
open Go.RowKit

theorem info36 : (Try.prog.info? 36).map (fun i => (i.zero, i.size, i.bytes)) = some (some (.slice none 0 0), 1, 24) := by kernel_rfl

/-- "pass" or "fail". -/
def status (p : Bool) : ByteArray := if p = true then ⟨#[112, 97, 115, 115]⟩ else ⟨#[102, 97, 105, 108]⟩

/-- The nine cells of the columns. -/
def colCells : Array Value := #[.string ⟨#[114, 117, 108, 101]⟩, .string ⟨#[]⟩, .bool false, .string ⟨#[115, 116, 97, 116, 117, 115]⟩, .string ⟨#[]⟩, .bool false, .string ⟨#[100, 101, 116, 97, 105, 108]⟩, .string ⟨#[]⟩, .bool false]

theorem lt_of_heap {w : World} {x : Nat} {o : Obj} (h : w.heap[x]? = some o) : x < w.heap.size := by
  rcases Nat.lt_or_ge x w.heap.size with hlt | hge
  · exact hlt
  · rw [Array.getElem?_eq_none hge] at h; cases h

/-- Whatever leaves the old blocks alone leaves the elements alone. -/
theorem Elems.kept {w w' : World} {b off n : Nat} {R : Nat → ByteArray} {A : Nat → Bool} {D : Nat → ByteArray} (h : Elems w b off n R A D) (hb : Below w.heap.size w w') : Elems w' b off n R A D := by
  intro i hi
  obtain ⟨e1, e2, e3⟩ := h i hi
  have hbl := World.block_lt_of_cell? w _ e1
  exact ⟨(hb.cell (p := ⟨b, off + i * 3, none⟩) hbl).trans e1, (hb.cell (p := ⟨b, off + i * 3 + 1, none⟩) hbl).trans e2, (hb.cell (p := ⟨b, off + i * 3 + 2, none⟩) hbl).trans e3⟩

/-- The rows' heads. -/
def heads (q : Nat → Nat) (k : Nat) : List Value := (List.range k).map fun j => .slice (some ⟨q j, 0, none⟩) 3 3

/-- Behind k rounds. -/
structure TabI (w : World) (R : Nat → ByteArray) (A : Nat → Bool) (D : Nat → ByteArray) (k : Nat) (rv : Value) (q : Nat → Nat) (wr : World) : Prop where
  res : wr.heap[w.heap.size]? = some (.cells #[.slice none 0 0, .slice none 0 0] 33 (0, 0))
  col : wr.heap[w.heap.size + 1]? = some (.cells colCells 39 (0, 0))
  tab : wr.heap[w.heap.size + 2]? = some (.cells #[.slice (some ⟨w.heap.size + 1, 0, none⟩) 3 3, rv] 33 (0, 0))
  own : wr.ownsRow (w.heap.size + 3) 36 1 rv k (heads q k)
  row : ∀ j, j < k → wr.heap[q j]? = some (.cells #[.string (R j), .string (status (A j)), .string (D j)] 9 (0, 0))
  bel : Below w.heap.size w wr

theorem own_ne {w : World} {base n x : Nat} {e : TypeId} {size : Nat} {v : Value} {xs : List Value} {cs : Array Value} {t : TypeId} {fr : Nat × Nat} (h : w.ownsRow base e size v n xs) (hx : w.heap[x]? = some (.cells cs t fr)) (ht : t ≠ e) : some x ≠ v.ownBlock := by
  rcases h.2 with ⟨rfl, _⟩ | ⟨g, cap, cur, rfl, _, hg, _⟩
  · simp [Value.ownBlock]
  · intro he
    simp [Value.ownBlock] at he
    subst he
    rw [hg] at hx
    simp at hx
    exact ht hx.2.1.symm
theorem own_base {w : World} {base n : Nat} {e : TypeId} {size : Nat} {v : Value} {xs : List Value} (h : w.ownsRow base e size v n xs) : ∀ k, v.ownBlock = some k → base ≤ k := by
  intro k hk
  rcases h.2 with ⟨rfl, _⟩ | ⟨g, cap, cur, rfl, hb, hg, _⟩
  · simp [Value.ownBlock] at hk
  · simp [Value.ownBlock] at hk
    omega
theorem heads_succ (q : Nat → Nat) (k x : Nat) : heads (fun j => if j = k then x else q j) (k + 1) = heads q k ++ [.slice (some ⟨x, 0, none⟩) 3 3] := by
  unfold heads
  rw [List.range_succ, List.map_append]
  congr 1
  · apply List.map_congr_left
    intro j hj
    have := List.mem_range.1 hj
    have hne : ¬ j = k := by omega
    simp only [if_neg hne]
  · simp

theorem tab_step {w : World} {R : Nat → ByteArray} {A : Nat → Bool} {D : Nat → ByteArray} {k : Nat} {rv : Value} {q : Nat → Nat} {wr : World} (h : TabI w R A D k rv q wr)
    {o1 o3 : Obj} {st : ByteArray} (hst : status (A k) = st) {g cap : Nat} {w1 : World}
    (hown : w1.ownsRow (w.heap.size + 3) 36 1 (.slice (some ⟨g, 0, none⟩) (k + 1) cap) (k + 1) (heads q k ++ [.slice (some ⟨wr.heap.size + 1, 0, none⟩) 3 3]))
    (hgrow : (((wr.alloc o1).alloc (.cells #[.string (R k), .string st, .string (D k)] 9)).alloc o3).grownBy w1 rv.ownBlock) :
    TabI w R A D (k + 1) (.slice (some ⟨g, 0, none⟩) (k + 1) cap) (fun j => if j = k then wr.heap.size + 1 else q j) (w1.setCell ⟨w.heap.size + 2, 1, none⟩ (.slice (some ⟨g, 0, none⟩) (k + 1) cap)) := by
  have hsz : w.heap.size + 2 < wr.heap.size := lt_of_heap h.tab
  have s1 : (wr.alloc o1).heap.size = wr.heap.size + 1 := by simp
  have s2 : ((wr.alloc o1).alloc (.cells #[.string (R k), .string st, .string (D k)] 9)).heap.size = wr.heap.size + 2 := by simp
  have s3 : (((wr.alloc o1).alloc (.cells #[.string (R k), .string st, .string (D k)] 9)).alloc o3).heap.size = wr.heap.size + 3 := by simp
  have old : ∀ x, x < wr.heap.size → (((wr.alloc o1).alloc (.cells #[.string (R k), .string st, .string (D k)] 9)).alloc o3).heap[x]? = wr.heap[x]? := by
    intro x hx
    rw [Below.heap_alloc _ _ x (by rw [s2]; omega), Below.heap_alloc _ _ x (by rw [s1]; omega), Below.heap_alloc _ _ x hx]
  have new : (((wr.alloc o1).alloc (.cells #[.string (R k), .string st, .string (D k)] 9)).alloc o3).heap[wr.heap.size + 1]? = some (.cells #[.string (R k), .string st, .string (D k)] 9 (0, 0)) := by
    rw [Below.heap_alloc _ _ _ (by rw [s2]; omega)]
    exact heap_alloc2_new wr o1 _
  have ownp := ((h.own.alloc o1).alloc (.cells #[.string (R k), .string st, .string (D k)] 9)).alloc o3
  have belp : Below w.heap.size w (((wr.alloc o1).alloc (.cells #[.string (R k), .string st, .string (D k)] 9)).alloc o3) := ((h.bel.alloc (by omega) _).alloc (by rw [s1]; omega) _).alloc (by rw [s2]; omega) _
  generalize ((wr.alloc o1).alloc (.cells #[.string (R k), .string st, .string (D k)] 9)).alloc o3 = wp at *
  have keep : ∀ (x : Nat) (cs : Array Value) (t : TypeId) (fr : Nat × Nat), wp.heap[x]? = some (Obj.cells cs t fr) → t ≠ 36 → w1.heap[x]? = some (Obj.cells cs t fr) := by
    intro x cs t fr hx ht
    rw [hgrow.block x (lt_of_heap hx) (own_ne ownp hx ht)]
    exact hx
  have keepw : ∀ (x : Nat) (cs : Array Value) (t : TypeId) (fr : Nat × Nat), wr.heap[x]? = some (Obj.cells cs t fr) → t ≠ 36 → w1.heap[x]? = some (Obj.cells cs t fr) := by
    intro x cs t fr hx ht
    exact keep x cs t fr ((old x (lt_of_heap hx)).trans hx) ht
  have k1 := keepw _ _ _ _ h.res (by decide)
  have k2 := keepw _ _ _ _ h.col (by decide)
  have k3 := keepw _ _ _ _ h.tab (by decide)
  refine ⟨?_, ?_, ?_, ?_, ?_, ?_⟩
  · rw [heap_setCell_other _ _ _ _ (by simp)]; exact k1
  · rw [heap_setCell_other _ _ _ _ (by simp)]; exact k2
  · rw [heap_setCell_same w1 _ 1 _ _ _ k3]; rfl
  · rw [heads_succ]
    exact ownsRow_setCell_below hown (by simp) _
  · intro j hj
    by_cases e : j = k
    · subst e
      rw [if_pos rfl, heap_setCell_other _ _ _ _ (by simp; omega), hst]
      exact keep _ _ _ _ new (by decide)
    · rw [if_neg e]
      have hq := h.row j (by omega)
      have hne : q j ≠ w.heap.size + 2 := by
        intro he
        rw [he, h.tab] at hq
        simp at hq
      rw [heap_setCell_other _ _ _ _ (by simpa using hne)]
      exact keepw _ _ _ _ hq (by decide)
  · exact (belp.grown hgrow belp.size (fun x hx => by have := own_base ownp x hx; omega)).setCell (by simp) _

/-- The table's own block, right behind the append. -/
theorem tab_mid {w : World} {R : Nat → ByteArray} {A : Nat → Bool} {D : Nat → ByteArray} {k : Nat} {rv : Value} {q : Nat → Nat} {wr : World} (h : TabI w R A D k rv q wr)
    {o1 o2 o3 : Obj} {w1 : World} (hgrow : (((wr.alloc o1).alloc o2).alloc o3).grownBy w1 rv.ownBlock) :
    w1.heap[w.heap.size + 2]? = some (.cells #[.slice (some ⟨w.heap.size + 1, 0, none⟩) 3 3, rv] 33 (0, 0)) := by
  have hsz : w.heap.size + 2 < wr.heap.size := lt_of_heap h.tab
  rw [hgrow.block _ (by simp; omega) (own_ne h.own h.tab (by decide)), Below.heap_alloc _ _ _ (by simp; omega), Below.heap_alloc _ _ _ (by simp; omega), Below.heap_alloc _ _ _ hsz]
  exact h.tab

theorem tab_start (w : World) (R : Nat → ByteArray) (A : Nat → Bool) (D : Nat → ByteArray) :
    TabI w R A D 0 (.slice none 0 0) (fun _ => 0) (((w.alloc (.cells #[.slice none 0 0, .slice none 0 0] 33)).alloc (.cells colCells 39)).alloc (.cells #[.slice (some ⟨w.heap.size + 1, 0, none⟩) 3 3, .slice none 0 0] 33)) := by
  refine ⟨?_, ?_, ?_, World.ownsRow_nil _ _ _ _, fun j hj => absurd hj (Nat.not_lt_zero _), (((Below.refl _ _).alloc (Nat.le_refl _) _).alloc (by simp) _).alloc (by simp; omega) _⟩
  · rw [Below.heap_alloc _ _ _ (by simp; omega), Below.heap_alloc _ _ _ (by simp)]
    exact (heap_alloc_new w _)
  · rw [Below.heap_alloc _ _ _ (by simp)]
    exact heap_alloc2_new w _ _
  · have := heap_alloc_new ((w.alloc (.cells #[.slice none 0 0, .slice none 0 0] 33)).alloc (.cells colCells 39)) (.cells #[.slice (some ⟨w.heap.size + 1, 0, none⟩) 3 3, .slice none 0 0] 33)
    simpa using this

/-- What is appended: the one cell of the last new block. -/
theorem one_new (wr : World) (o1 o2 : Obj) (u : Value) : ∀ j u', [u][j]? = some u' → (((wr.alloc o1).alloc o2).alloc (.cells #[u] 36)).cell? ((⟨wr.heap.size + 1 + 1, 0, none⟩ : Addr).add j) = some u' := by
  have h := heap_alloc_new ((wr.alloc o1).alloc o2) (.cells #[u] 36)
  have e : ((wr.alloc o1).alloc o2).heap.size = wr.heap.size + 1 + 1 := by simp
  rw [e] at h
  exact World.news_of_block (cs := #[u]) h

/-- What is known of a table of n rows. -/
structure TabP (R : Nat → ByteArray) (A : Nat → Bool) (D : Nat → ByteArray) (n : Nat) (cb : Nat) (rv : Value) (q : Nat → Nat) (w' : World) : Prop where
  col : w'.heap[cb]? = some (.cells colCells 39 (0, 0))
  own : w'.ownsRow 0 36 1 rv n (heads q n)
  row : ∀ j, j < n → w'.heap[q j]? = some (.cells #[.string (R j), .string (status (A j)), .string (D j)] 9 (0, 0))

theorem own_zero {w : World} {base n : Nat} {e : TypeId} {size : Nat} {v : Value} {xs : List Value} (h : w.ownsRow base e size v n xs) : w.ownsRow 0 e size v n xs := by
  refine ⟨h.1, ?_⟩
  rcases h.2 with h0 | ⟨g, cap, cur, h1, _, h2⟩
  · exact .inl h0
  · exact .inr ⟨g, cap, cur, h1, Nat.zero_le _, h2⟩
theorem own_kept {w w' : World} {base n : Nat} {e : TypeId} {size : Nat} {v : Value} {xs : List Value} (h : w.ownsRow base e size v n xs) (hb : Below w.heap.size w w') : w'.ownsRow base e size v n xs := by
  refine ⟨h.1, ?_⟩
  rcases h.2 with h0 | ⟨g, cap, cur, h1, h2, h3, h4⟩
  · exact .inl h0
  · exact .inr ⟨g, cap, cur, h1, h2, (hb.block g (lt_of_heap h3)).trans h3, h4⟩
theorem TabP.kept {R : Nat → ByteArray} {A : Nat → Bool} {D : Nat → ByteArray} {n cb : Nat} {rv : Value} {q : Nat → Nat} {w' w'' : World} (h : TabP R A D n cb rv q w') (hb : Below w'.heap.size w' w'') : TabP R A D n cb rv q w'' :=
  ⟨(hb.block _ (lt_of_heap h.col)).trans h.col, own_kept h.own hb, fun j hj => (hb.block _ (lt_of_heap (h.row j hj))).trans (h.row j hj)⟩

theorem tab_end {w : World} {R : Nat → ByteArray} {A : Nat → Bool} {D : Nat → ByteArray} {n : Nat} {rv : Value} {q : Nat → Nat} {wr : World} (h : TabI w R A D n rv q wr) (u v : Value) :
    TabP R A D n (w.heap.size + 1) rv q ((wr.setCell ⟨w.heap.size, 0, none⟩ u).setCell ⟨w.heap.size, 1, none⟩ v) ∧ Below w.heap.size w ((wr.setCell ⟨w.heap.size, 0, none⟩ u).setCell ⟨w.heap.size, 1, none⟩ v) := by
  refine ⟨⟨?_, ?_, ?_⟩, (h.bel.setCell (by simp) _).setCell (by simp) _⟩
  · rw [heap_setCell_other _ _ _ _ (by simp), heap_setCell_other _ _ _ _ (by simp)]; exact h.col
  · exact own_zero (ownsRow_setCell_below (ownsRow_setCell_below h.own (by simp) _) (by simp) _)
  · intro j hj
    have hq := h.row j hj
    have hne : q j ≠ w.heap.size := by
      intro he
      rw [he, h.res] at hq
      simp at hq
    rw [heap_setCell_other _ _ _ _ (by simpa using hne), heap_setCell_other _ _ _ _ (by simpa using hne)]; exact hq
end Go.Proofs.Qxb6619398a
