import Derived.Test.YbulkxfoMergePlain
namespace Go.Proofs.Ybulkxfo
open Go.Shelf Go.RowKit Go.Lib Go.Sort

theorem RowB.ld {w : World} {g : Nat} {D : Array Lot} (h : RowB w g D) (P : Program) {k : Nat} (hk : k = 7) (i : Nat) (hi : i < D.size) :
    Sem.run P (loadCellsFrom ⟨g, i * k, none⟩ 0 k #[]) w = .ok (encL D[i]!).toArray w := by
  subst hk
  refine run_loadCellsFrom_list P w ⟨g, i * 7, none⟩ (encL D[i]!) 7 (len_encL _) ?_
  have := HoldsK.cells (h.holds (d := D) (Nat.le_refl _) (fun _ _ => rfl)) len_encL hi
  rwa [Nat.zero_add] at this
theorem RowB.st {w : World} {g : Nat} {D : Array Lot} (h : RowB w g D) (P : Program) {k : Nat} (hk : k = 7) (i : Nat) (hi : i < D.size) (y : Lot) :
    Sem.run P (storeCells ⟨g, i * k, none⟩ (encL y) 0) w = .ok () (w.setCells g (i * k) (encL y)) := by
  subst hk
  have := stores_of_holds P (h.holds (d := D) (Nat.le_refl _) (fun _ _ => rfl)) (i * 7) (encL y) (by rw [len_encL, size_flatK]; exact rowK_bnd D 7 i hi) (one_encL y)
  rwa [Nat.zero_add] at this
theorem RowB.stored {w : World} {g : Nat} {D : Array Lot} (h : RowB w g D) {k : Nat} (hk : k = 7) (i : Nat) (hi : i < D.size) (y : Lot) :
    RowB (w.setCells g (i * k) (encL y)) g (D.setIfInBounds i y) := by
  subst hk; exact h.store i hi y
theorem stored_other (w : World) (g o : Nat) (vs : List Value) (j : Nat) (hj : j ≠ g) : (w.setCells g o vs).heap[j]? = w.heap[j]? := by
  induction vs generalizing w o with
  | nil => rfl
  | cons v vs ih => rw [World.setCells, ih, RowKit.Below.heap_setCell _ _ _ _ hj]
theorem RowB.grown {w : World} {g : Nat} {D : Array Lot} (h : RowB w g D) (n : Nat) (os : Array Obj) : RowB (grow (w.drewN n) os) g D := h.of (Sort.heap_grow_old _ os h.lt)

theorem setCells_tape (b : Nat) : ∀ (vs : List Value) (o : Nat) (w : World), (w.setCells b o vs).tape = w.tape ∧ (w.setCells b o vs).os = w.os ∧ (w.setCells b o vs).output = w.output
  | [], _, _ => ⟨rfl, rfl, rfl⟩
  | v :: r, o, w => by rw [World.setCells]; have := setCells_tape b r (o + 1) (w.setCell ⟨b, o, none⟩ v); exact ⟨this.1.trans rfl, this.2.1.trans rfl, this.2.2.trans rfl⟩
/-- Every block below B but g is as it was, and so is all besides the memory. -/
def KeptG (B g : Nat) (w w' : World) : Prop := w.heap.size ≤ w'.heap.size ∧ (∀ j, j < B → j ≠ g → w'.heap[j]? = w.heap[j]?) ∧ w'.os = w.os ∧ w'.tape = w.tape ∧ w'.output = w.output
theorem KeptG.grown {B g : Nat} {w w' : World} (h : KeptG B g w w') (hB : B ≤ w.heap.size) (n : Nat) (os : Array Obj) : KeptG B g w (grow (w'.drewN n) os) :=
  ⟨by rw [Sort.size_grow]; exact Nat.le_trans h.1 (Nat.le_add_right _ _), fun j h1 h2 => (Sort.heap_grow_old (w'.drewN n) os (show j < w'.heap.size by have := h.1; omega)).trans (h.2.1 j h1 h2), h.2.2.1, h.2.2.2.1, h.2.2.2.2⟩
theorem KeptG.stored {B g b : Nat} {w w' : World} (h : KeptG B g w w') (hb : b = g ∨ B ≤ b) (o : Nat) (vs : List Value) : KeptG B g w (w'.setCells b o vs) :=
  ⟨by rw [size_setCells]; exact h.1, fun j h1 h2 => (stored_other w' b o vs j (by omega)).trans (h.2.1 j h1 h2), (setCells_tape b vs o w').2.1.trans h.2.2.1, (setCells_tape b vs o w').1.trans h.2.2.2.1, (setCells_tape b vs o w').2.2.trans h.2.2.2.2⟩
theorem KeptG.below {B B' g : Nat} {w0 w w' : World} (h0 : RowKit.Below B w0 w) (h : KeptG B' g w w') (hB : B ≤ B') (hg : B ≤ g) : RowKit.Below B w0 w' :=
  ⟨h.2.2.1.trans h0.os, h.2.2.2.1.trans h0.tape, h.2.2.2.2.trans h0.output, Nat.le_trans h0.size h.1, fun j hj => (h.2.1 j (by omega) (by omega)).trans (h0.block j hj)⟩

theorem gt_iff (x y : Lot) : cfL x y > 0 ↔ ltOf cfL y x = true := by
  rw [lt_iff]
  unfold cfL c3 cI
  simp only [Fin.lt_def]
  rcases Nat.lt_trichotomy x.1.val y.1.val with h | h | h
  · have h1 : ¬ y.1.val < x.1.val := by omega
    simp [h]; omega
  · simp only [h, Nat.lt_irrefl, if_false, if_true, true_and, false_or]
    by_cases h1 : x.2.1 < y.2.1
    · simp [h1]; omega
    · by_cases h2 : y.2.1 < x.2.1 <;> simp [h1, h2]
  · have h' : ¬ x.1.val < y.1.val := by omega
    have h2 : ¬ x.1.val = y.1.val := by omega
    simp [h, h']

/-- compareLots' contract, in the form that a drawn region asks for. -/
theorem cmp_grown {P : Program} (hcmp : ∀ (x y : Lot) (w : World), Calls P 6 #[.agg (encL x).toArray, .agg (encL y).toArray] w fun e w' => e = .returned (.int .i64 (cfL x y)) ∧ w' = (w.alloc (.cells (encL x).toArray 29)).alloc (.cells (encL y).toArray 29))
    (W : World) (x y : Lot) (n : Nat) (os : Array Obj) : Calls P 6 #[.agg (encL x).toArray, .agg (encL y).toArray] (grow (W.drewN n) os) fun e w' => e = .returned (.int .i64 (cfL x y)) ∧ ∃ q os', w' = grow ((grow (W.drewN n) os).drewN q) os' := by
  refine (hcmp x y _).mono ?_
  rintro e w' ⟨rfl, rfl⟩
  refine ⟨rfl, 0, #[.cells (encL x).toArray 29, .cells (encL y).toArray 29], ?_⟩
  rw [alloc_eq_grow, alloc_eq_grow, grow_grow]
  rfl
end Go.Proofs.Ybulkxfo
