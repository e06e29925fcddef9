import Derived.Test.YbulkxfoWalk4
namespace Go.Proofs.Ybulkxfo
open Go.Shelf Go.RowKit Go.Lib Go.Sort

theorem equal29 (x : Lot) (w : World) : (Op.equalIn 10000 29 (.agg (encL x).toArray) (.agg (encL x).toArray)).run Yba.prog w = .ok true w := by
  have hS : Yba.prog.underlying 29 = some (.struct (Yba.prog.fieldsOf 29)) := by kernel_rfl
  have hp : Yba.prog.stoodInHeld 29 = false := by kernel_rfl
  rw [show (10000 : Nat) = 9999 + 1 from rfl, run_equalIn_agg w 9999 29 _ _ hS hp]
  simp only [Program.fieldsOf, Yba.underlying29, encL]
  go_simp
theorem guard29 : Yba.prog.eqGuardType Yba.prog.depth 29 = false := by kernel_rfl
theorem bs29 (x : Lot) (w : World) : (Instr.buildSlice 23 1 #[(0, .agg (encL x).toArray)]).run Yba.prog w = .ok (.slice (some ⟨w.heap.size, 0, none⟩) 1 1) (w.alloc (.cells (encL x).toArray 29)) := by
  simp only [encL]
  go_simp

section
set_option linter.unusedSectionVars false
variable {α : Type} [Inhabited α] {lt : α → α → Bool} {D E : Array α} {n m i j : Nat} {l : List α}
theorem pre_drop (D : Array α) (n i : Nat) (h : i < n) : (pre D n).drop i = D[i]! :: (pre D n).drop (i + 1) := by
  rw [List.drop_eq_getElem_cons (by rw [pre_len]; exact h)]
  congr 1
  simp [pre]
theorem pre_drop_all (D : Array α) (n : Nat) : (pre D n).drop n = [] := List.drop_of_length_le (by rw [pre_len]; exact Nat.le_refl _)

/-- How the merge from the front stands: i of the first and j of the second are merged, to l. -/
def MF (lt : α → α → Bool) (D E : Array α) (n m i j : Nat) (l : List α) : Prop :=
  i ≤ n ∧ j ≤ m ∧ l.length = i + j ∧ l ++ mrg lt ((pre D n).drop i) ((pre E m).drop j) = mrg lt (pre D n) (pre E m)
theorem mf_start : MF lt D E n m 0 0 [] := ⟨by omega, by omega, rfl, by simp⟩
theorem mf_a (h : MF lt D E n m i j l) (hi : i < n) (hc : j = m ∨ j < m ∧ lt E[j]! D[i]! = false) : MF lt D E n m (i + 1) j (l ++ [D[i]!]) := by
  obtain ⟨h1, h2, h3, h4⟩ := h
  refine ⟨by omega, h2, by simp; omega, ?_⟩
  have : mrg lt ((pre D n).drop i) ((pre E m).drop j) = D[i]! :: mrg lt ((pre D n).drop (i + 1)) ((pre E m).drop j) := by
    rw [pre_drop D n i hi]
    rcases hc with hc | ⟨hc, hl⟩
    · subst hc; rw [pre_drop_all, mrg_nil_right, mrg_nil_right]
    · rw [pre_drop E m j hc, mrg_cons, if_pos hl]
  rw [List.append_assoc, ← h4, this]; rfl
theorem mf_b (h : MF lt D E n m i j l) (hj : j < m) (hc : i = n ∨ i < n ∧ lt E[j]! D[i]! = true) : MF lt D E n m i (j + 1) (l ++ [E[j]!]) := by
  obtain ⟨h1, h2, h3, h4⟩ := h
  refine ⟨h1, by omega, by simp; omega, ?_⟩
  have : mrg lt ((pre D n).drop i) ((pre E m).drop j) = E[j]! :: mrg lt ((pre D n).drop i) ((pre E m).drop (j + 1)) := by
    rw [pre_drop E m j hj]
    rcases hc with hc | ⟨hc, hl⟩
    · subst hc; rw [pre_drop_all, mrg_nil_left, mrg_nil_left]
    · rw [pre_drop D n i hc, mrg_cons, if_neg (by rw [hl]; simp)]
  rw [List.append_assoc, ← h4, this]; rfl
theorem mf_end (h : MF lt D E n m n m l) : l = mrg lt (pre D n) (pre E m) := by
  obtain ⟨_, _, _, h4⟩ := h
  rw [pre_drop_all, pre_drop_all, mrg_nil_left, List.append_nil] at h4
  exact h4
end

theorem flat_get : ∀ (l : List Lot) (i c : Nat), i < l.length → c < 7 → (l.flatMap encL)[i * 7 + c]? = (encL l[i]!)[c]?
  | [], i, c, h, _ => absurd h (by simp)
  | x :: l, 0, c, _, hc => by
    rw [List.flatMap_cons, List.getElem?_append_left (by rw [len_encL]; omega)]
    simp
  | x :: l, i + 1, c, h, hc => by
    rw [List.flatMap_cons, List.getElem?_append_right (by rw [len_encL]; omega), len_encL, show (i + 1) * 7 + c - 7 = i * 7 + c by omega, flat_get l i c (by simpa using h) hc]
    simp
theorem flat_len (l : List Lot) : (l.flatMap encL).length = l.length * 7 := by
  induction l with
  | nil => rfl
  | cons x l ih => rw [List.flatMap_cons, List.length_append, ih, len_encL, List.length_cons]; omega
/-- The slice at block g holds the lots l, in a row of its own, at or above B. -/
def OwnL (w : World) (B g cap : Nat) (l : List Lot) : Prop := w.ownsRow B 29 7 (.slice (some ⟨g, 0, none⟩) l.length cap) l.length (l.flatMap encL)
theorem OwnL.ld {w : World} {B g cap : Nat} {l : List Lot} (h : OwnL w B g cap l) (P : Program) {k : Nat} (hk : k = 7) (i : Nat) (hi : i < l.length) :
    Sem.run P (loadCellsFrom ⟨g, i * k, none⟩ 0 k #[]) w = .ok (encL l[i]!).toArray w := by
  subst hk
  refine run_loadCellsFrom_list P w ⟨g, i * 7, none⟩ (encL l[i]!) 7 (len_encL _) fun c v hv => ?_
  have hc : c < 7 := by have := (List.getElem?_eq_some_iff.1 hv).1; rwa [len_encL] at this
  rw [show (⟨g, i * 7, none⟩ : Addr).add c = ⟨g, i * 7 + c, none⟩ by unfold Addr.add; split <;> simp_all]
  rw [World.ownsRow.cellAt h (i * 7 + c) (by omega), flat_get l i c hi hc, hv]
theorem OwnL.of {w w' : World} {B g cap : Nat} {l : List Lot} (h : OwnL w B g cap l) (e : w'.heap[g]? = w.heap[g]?) : OwnL w' B g cap l := by
  refine ⟨h.1, ?_⟩
  rcases h.2 with ⟨h1, _⟩ | ⟨g2, cap2, cur, h1, h2, h3, h4⟩
  · cases h1
  · cases h1; exact .inr ⟨g, cap, cur, rfl, h2, e.trans h3, h4⟩
theorem OwnL.lt {w : World} {B g cap : Nat} {l : List Lot} (h : OwnL w B g cap l) : B ≤ g ∧ g < w.heap.size := World.ownsRow.lt h g rfl
theorem OwnL.made (w : World) (c : Nat) (hc : c ≤ 3000) : OwnL (w.alloc (.cells (flatK encL 7 (mkD c)) 29)) w.heap.size w.heap.size c [] := by
  have := World.ownsRow_made (base := w.heap.size) (e := 29) (size := 7) w (flatK encL 7 (mkD c)) c (Nat.le_refl _) (by unfold maxLen; omega) (by rw [size_flatK, size_mkD])
  exact this
theorem OwnL.snoc {w : World} {B g cap : Nat} {l : List Lot} {x : Lot} (h : w.ownsRow B 29 7 (.slice (some ⟨g, 0, none⟩) (l.length + 1) cap) (l.length + 1) (l.flatMap encL ++ encL x)) : OwnL w B g cap (l ++ [x]) := by
  unfold OwnL
  rw [List.flatMap_append, List.length_append]
  simpa using h
end Go.Proofs.Ybulkxfo
