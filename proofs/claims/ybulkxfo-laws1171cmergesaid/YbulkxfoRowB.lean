import Derived.Test.YbulkxfoRow
namespace Go.Proofs.Ybulkxfo
open Go.Shelf Go.RowKit Go.Lib Go.Sort

/-- Block g is a row of lots, D, and nothing else. -/
def RowB (w : World) (g : Nat) (D : Array Lot) : Prop := w.heap[g]? = some (.cells (flatK encL 7 D) 29 (0, 0))

theorem RowB.lt {w : World} {g : Nat} {D : Array Lot} (h : RowB w g D) : g < w.heap.size := (Array.getElem?_eq_some_iff.1 h).1
theorem RowB.frozen {w : World} {g : Nat} {D : Array Lot} (h : RowB w g D) (o : Nat) : w.frozen? ⟨g, o, none⟩ = false := by
  unfold RowB at h; simp [World.frozen?, h]
theorem RowB.of {w w' : World} {g : Nat} {D : Array Lot} (h : RowB w g D) (e : w'.heap[g]? = w.heap[g]?) : RowB w' g D := e.trans h

theorem flat_at (D : Array Lot) (t : Nat) (h : t < D.size * 7) : (flatK encL 7 D)[t]? = some (encL D[t / 7]!)[t % 7]! := by
  have hs : t < (flatK encL 7 D).size := by simpa using h
  rw [Array.getElem?_eq_getElem hs]
  congr 1
  have := get_flatK encL 7 D t h
  rwa [getElem!_pos _ t hs] at this

theorem RowB.cellAt {w : World} {g : Nat} {D : Array Lot} (h : RowB w g D) (t : Nat) (ht : t < D.size * 7) : w.cell? ⟨g, t, none⟩ = some (encL D[t / 7]!)[t % 7]! := by
  rw [cell_of_row w g t _ 29 (0, 0) h, flat_at D t ht]

theorem RowB.holds {w : World} {g : Nat} {D d : Array Lot} (h : RowB w g D) (hs : d.size ≤ D.size) (hd : ∀ i, i < d.size → d[i]! = D[i]!) : HoldsK encL 7 w g 0 d := by
  intro j hj
  rw [size_flatK] at hj
  refine ⟨?_, h.frozen _⟩
  rw [Nat.zero_add, h.cellAt j (by omega), get_flatK _ _ _ _ hj, hd (j / 7) (by omega)]
  rfl

/-- Element i's seven cells. -/
theorem RowB.cells7 {w : World} {g : Nat} {D : Array Lot} (h : RowB w g D) (i : Nat) (hi : i < D.size) (x : Lot) (hx : D[i]! = x) :
    w.cell? ⟨g, i * 7, none⟩ = some (.string (acc x.1)) ∧ w.cell? ⟨g, i * 7 + 1, none⟩ = some (.string ⟨#[]⟩) ∧ w.cell? ⟨g, i * 7 + 2, none⟩ = some (.int .i32 x.2.1) ∧ w.cell? ⟨g, i * 7 + 3, none⟩ = some (.int .i64 x.2.2) ∧
    w.cell? ⟨g, i * 7 + 4, none⟩ = some (.int .i64 0) ∧ w.cell? ⟨g, i * 7 + 5, none⟩ = some (.int .i64 0) ∧ w.cell? ⟨g, i * 7 + 6, none⟩ = some (.int .i64 0) := by
  have key : ∀ c, c < 7 → w.cell? ⟨g, i * 7 + c, none⟩ = some (encL x)[c]! := fun c hc => by
    rw [h.cellAt (i * 7 + c) (by omega), show (i * 7 + c) / 7 = i by omega, show (i * 7 + c) % 7 = c by omega, hx]
  exact ⟨key 0 (by omega), key 1 (by omega), key 2 (by omega), key 3 (by omega), key 4 (by omega), key 5 (by omega), key 6 (by omega)⟩

theorem val_ext {x y : Array Value} (hs : x.size = y.size) (h : ∀ t, t < x.size → x[t]? = y[t]?) : x = y :=
  Array.ext hs fun t h1 h2 => by have := h t h1; rw [Array.getElem?_eq_getElem h1, Array.getElem?_eq_getElem h2] at this; exact Option.some.inj this

theorem set_get (D : Array Lot) (i : Nat) (x : Lot) (hi : i < D.size) (t : Nat) : (D.setIfInBounds i x)[t]! = if t = i then x else D[t]! := by
  by_cases h : t = i
  · subst h; rw [if_pos rfl]; exact getElem!_set_same D t x hi
  · rw [if_neg h]; exact getElem!_set_other D i t x h

theorem get_set (F : Array Value) (j : Nat) (v : Value) (t : Nat) (ht : t < F.size) : (F.setIfInBounds j v)[t]? = if t = j then some v else F[t]? := by
  rw [Array.getElem?_setIfInBounds]
  by_cases h : j = t
  · rw [if_pos h, if_pos h.symm, if_pos (by omega)]
  · rw [if_neg h, if_neg (fun e => h e.symm)]

theorem flat_set (D : Array Lot) (i : Nat) (hi : i < D.size) (x : Lot) :
    (((((((flatK encL 7 D).setIfInBounds (i * 7) (.string (acc x.1))).setIfInBounds (i * 7 + 1) (.string ⟨#[]⟩)).setIfInBounds (i * 7 + 2) (.int .i32 x.2.1)).setIfInBounds (i * 7 + 3) (.int .i64 x.2.2)).setIfInBounds (i * 7 + 4) (.int .i64 0)).setIfInBounds (i * 7 + 5) (.int .i64 0)).setIfInBounds (i * 7 + 6) (.int .i64 0) = flatK encL 7 (D.setIfInBounds i x) := by
  refine val_ext (by simp only [Array.size_setIfInBounds, size_flatK]) fun t ht => ?_
  have ht' : t < D.size * 7 := by simpa only [Array.size_setIfInBounds, size_flatK] using ht
  rw [flat_at _ t (by rw [Array.size_setIfInBounds]; exact ht'), set_get D i x hi]
  have hs : t < (flatK encL 7 D).size := by rw [size_flatK]; exact ht'
  rw [get_set _ _ _ _ (by simpa only [Array.size_setIfInBounds] using hs), get_set _ _ _ _ (by simpa only [Array.size_setIfInBounds] using hs), get_set _ _ _ _ (by simpa only [Array.size_setIfInBounds] using hs), get_set _ _ _ _ (by simpa only [Array.size_setIfInBounds] using hs), get_set _ _ _ _ (by simpa only [Array.size_setIfInBounds] using hs), get_set _ _ _ _ (by simpa only [Array.size_setIfInBounds] using hs), get_set _ _ _ _ hs, flat_at D t ht']
  by_cases hd : t / 7 = i
  · rw [if_pos hd]
    have hmt : t = i * 7 + t % 7 := by omega
    have cc : t % 7 = 0 ∨ t % 7 = 1 ∨ t % 7 = 2 ∨ t % 7 = 3 ∨ t % 7 = 4 ∨ t % 7 = 5 ∨ t % 7 = 6 := by omega
    rcases cc with c | c | c | c | c | c | c
    · rw [c, if_neg (by omega), if_neg (by omega), if_neg (by omega), if_neg (by omega), if_neg (by omega), if_neg (by omega), if_pos (by omega)]; rfl
    · rw [c, if_neg (by omega), if_neg (by omega), if_neg (by omega), if_neg (by omega), if_neg (by omega), if_pos (by omega)]; rfl
    · rw [c, if_neg (by omega), if_neg (by omega), if_neg (by omega), if_neg (by omega), if_pos (by omega)]; rfl
    · rw [c, if_neg (by omega), if_neg (by omega), if_neg (by omega), if_pos (by omega)]; rfl
    · rw [c, if_neg (by omega), if_neg (by omega), if_pos (by omega)]; rfl
    · rw [c, if_neg (by omega), if_pos (by omega)]; rfl
    · rw [c, if_pos (by omega)]; rfl
  · rw [if_neg hd, if_neg (by omega), if_neg (by omega), if_neg (by omega), if_neg (by omega), if_neg (by omega), if_neg (by omega), if_neg (by omega)]

/-- A lot's seven stores. -/
def put7 (w : World) (g i : Nat) (x : Lot) : World :=
  ((((((w.setCell ⟨g, i * 7, none⟩ (.string (acc x.1))).setCell ⟨g, i * 7 + 1, none⟩ (.string ⟨#[]⟩)).setCell ⟨g, i * 7 + 2, none⟩ (.int .i32 x.2.1)).setCell ⟨g, i * 7 + 3, none⟩ (.int .i64 x.2.2)).setCell ⟨g, i * 7 + 4, none⟩ (.int .i64 0)).setCell ⟨g, i * 7 + 5, none⟩ (.int .i64 0)).setCell ⟨g, i * 7 + 6, none⟩ (.int .i64 0)

theorem RowB.store {w : World} {g : Nat} {D : Array Lot} (h : RowB w g D) (i : Nat) (hi : i < D.size) (x : Lot) : RowB (put7 w g i x) g (D.setIfInBounds i x) := by
  unfold RowB
  rw [← flat_set D i hi x]
  unfold RowB at h
  generalize flatK encL 7 D = F at h
  have h1 := heap_setCell_same w g (i * 7) F 29 (.string (acc x.1)) h
  have h2 := heap_setCell_same _ g (i * 7 + 1) _ 29 (.string ⟨#[]⟩) h1
  have h3 := heap_setCell_same _ g (i * 7 + 2) _ 29 (.int .i32 x.2.1) h2
  have h4 := heap_setCell_same _ g (i * 7 + 3) _ 29 (.int .i64 x.2.2) h3
  have h5 := heap_setCell_same _ g (i * 7 + 4) _ 29 (.int .i64 0) h4
  have h6 := heap_setCell_same _ g (i * 7 + 5) _ 29 (.int .i64 0) h5
  exact heap_setCell_same _ g (i * 7 + 6) _ 29 (.int .i64 0) h6

theorem put7_other (w : World) (g i : Nat) (x : Lot) (k : Nat) (hk : k ≠ g) : (put7 w g i x).heap[k]? = w.heap[k]? := by
  unfold put7
  rw [Below.heap_setCell _ _ _ _ hk, Below.heap_setCell _ _ _ _ hk, Below.heap_setCell _ _ _ _ hk, Below.heap_setCell _ _ _ _ hk, Below.heap_setCell _ _ _ _ hk, Below.heap_setCell _ _ _ _ hk, Below.heap_setCell _ _ _ _ hk]
theorem put7_size (w : World) (g i : Nat) (x : Lot) : (put7 w g i x).heap.size = w.heap.size := by unfold put7; simp
theorem put7_below {B : Nat} {a w : World} (h : RowKit.Below B a w) (g i : Nat) (x : Lot) (hg : B ≤ g) : RowKit.Below B a (put7 w g i x) := by
  unfold put7
  have h1 := h.setCell (p := ⟨g, i * 7, none⟩) hg (.string (acc x.1))
  have h2 := h1.setCell (p := ⟨g, i * 7 + 1, none⟩) hg (.string ⟨#[]⟩)
  have h3 := h2.setCell (p := ⟨g, i * 7 + 2, none⟩) hg (.int .i32 x.2.1)
  have h4 := h3.setCell (p := ⟨g, i * 7 + 3, none⟩) hg (.int .i64 x.2.2)
  have h5 := h4.setCell (p := ⟨g, i * 7 + 4, none⟩) hg (.int .i64 0)
  have h6 := h5.setCell (p := ⟨g, i * 7 + 5, none⟩) hg (.int .i64 0)
  exact h6.setCell (p := ⟨g, i * 7 + 6, none⟩) hg (.int .i64 0)

/-- Behind the sort: the row's head is the sorted one, its tail as it was; nothing else below has turned. -/
theorem sorted_row {w w' : World} {g : Nat} {D d' : Array Lot} (h : RowB w g D) (hs : d'.size ≤ D.size) (S : SWK encL 7 w g 0 d' w') :
    (∃ D' : Array Lot, RowB w' g D' ∧ D'.size = D.size ∧ ∀ i, i < d'.size → D'[i]! = d'[i]!) ∧ (∀ k, k < w.heap.size → k ≠ g → w'.heap[k]? = w.heap[k]?) ∧ w.heap.size ≤ w'.heap.size ∧ w'.os = w.os ∧ w'.tape = w.tape ∧ w'.output = w.output := by
  obtain ⟨m, os, rfl⟩ := S
  have hg := h.lt
  have hsz : (putRowK encL 7 (Sort.ahead w m) g 0 d').heap.size = w.heap.size := by rw [size_putRowK]; rfl
  refine ⟨⟨d' ++ D.extract d'.size D.size, ?_, ?_, ?_⟩, fun k hk hne => ?_, ?_, rfl, rfl, rfl⟩
  · unfold RowB sortWorldK
    rw [heap_grow_old _ _ (by rw [hsz]; exact hg)]
    unfold putRowK putRow mapBlock
    unfold RowB at h
    simp only [Array.getElem?_modify, if_true, heap_ahead, h, Option.map_some, onCells]
    congr 2
    refine val_ext (by simp [putCells]; omega) fun t ht => ?_
    have ht' : t < D.size * 7 := by simpa [putCells] using ht
    rw [flat_at _ t (by simp; omega)]
    simp only [putCells, Array.getElem?_mapIdx, flat_at D t ht', Option.map_some, size_flatK, id]
    by_cases hc : t < d'.size * 7
    · rw [if_pos (by omega), Nat.sub_zero, get_flatK _ _ _ _ hc]
      rw [getElem!_pos (d' ++ D.extract d'.size D.size) (t / 7) (by simp; omega), Array.getElem_append_left (by omega), getElem!_pos d' (t / 7) (by omega)]
    · rw [if_neg (by omega)]
      rw [getElem!_pos (d' ++ D.extract d'.size D.size) (t / 7) (by simp; omega), Array.getElem_append_right (by omega), getElem!_pos D (t / 7) (by omega)]
      simp only [Array.getElem_extract]
      congr 4
      omega
  · simp; omega
  · intro i hi
    rw [getElem!_pos (d' ++ D.extract d'.size D.size) i (by simp; omega), Array.getElem_append_left hi, getElem!_pos d' i hi]
  · unfold sortWorldK
    rw [heap_grow_old _ _ (by rw [hsz]; exact hk)]
    unfold putRowK putRow mapBlock
    simp only [Array.getElem?_modify, heap_ahead]
    rw [if_neg (fun e => hne e.symm)]
  · unfold sortWorldK
    rw [size_grow, hsz]; omega
end Go.Proofs.Ybulkxfo
