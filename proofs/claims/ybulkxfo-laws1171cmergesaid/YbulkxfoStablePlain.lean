import Derived.Test.YbulkxfoSymGen
namespace Go.Proofs.Ybulkxfo
open Go.Shelf Go.RowKit Go.Lib Go.Sort
variable {P : Program} {α : Type} [Inhabited α]
set_option linter.unusedSectionVars false

theorem get_take_drop (l : List α) (a i : Nat) (n : Nat) (h : i < n) : ((l.drop a).take n)[i]? = l[a + i]? := by
  rw [List.getElem?_take, if_pos h, List.getElem?_drop]

theorem asc_of_sorted {lt : α → α → Bool} {d : Array α} {x y : Nat} (h : SortedIn lt x y d) (hy : y ≤ d.size) : Asc lt ((d.toList.drop x).take (y - x)) := by
  refine List.pairwise_iff_getElem.2 fun i j hi hj hij => ?_
  have hl : ((d.toList.drop x).take (y - x)).length ≤ y - x := List.length_take_le _ _
  have := h (x + i) (x + j) (by omega) (by omega) (by omega)
  rw [getElem!_pos d (x + i) (by omega), getElem!_pos d (x + j) (by omega)] at this
  simpa [List.getElem_take, List.getElem_drop] using this

theorem sorted_of_asc {lt : α → α → Bool} (p Y q : List α) (h : Asc lt Y) (a b : Nat) (ha : a = p.length) (hb : b = p.length + Y.length) : SortedIn lt a b (p ++ (Y ++ q)).toArray := by
  intro i j h1 h2 h3
  have e : ∀ t, a ≤ t → t < b → (p ++ (Y ++ q)).toArray[t]! = (Y[t - p.length]?).getD default := fun t t1 t2 => by
    have := at_A p Y [] q t (by omega) (by omega)
    simpa using this
  rw [e i h1 (by omega), e j (by omega) h3]
  have := List.pairwise_iff_getElem.1 h (i - p.length) (j - p.length) (by omega) (by omega) (by omega)
  simpa [List.getElem?_eq_getElem (show i - p.length < Y.length by omega), List.getElem?_eq_getElem (show j - p.length < Y.length by omega)] using this

theorem sorted_keep {lt : α → α → Bool} {d d' : Array α} {a b x y : Nat} (hk : ∀ i, i < a ∨ b ≤ i → d'[i]! = d[i]!) (h : SortedIn lt x y d) (hd : y ≤ a ∨ b ≤ x) : SortedIn lt x y d' := by
  intro i j h1 h2 h3
  rw [hk i (by omega), hk j (by omega)]
  exact h i j h1 h2 h3

theorem out_same (p X Y q : List α) (hxy : X.length = Y.length) (a b : Nat) (ha : a = p.length) (hb : b = p.length + X.length) : ∀ i, i < a ∨ b ≤ i → (p ++ (Y ++ q)).toArray[i]! = (p ++ (X ++ q)).toArray[i]! := by
  intro i hi
  rw [arr_get, arr_get]
  rcases hi with hi | hi
  · rw [List.getElem?_append_left (by omega), List.getElem?_append_left (by omega)]
  · rw [List.getElem?_append_right (by omega), List.getElem?_append_right (by omega), List.getElem?_append_right (by omega), List.getElem?_append_right (by omega), hxy]

theorem list_cut (l : List α) (a m b : Nat) (h1 : a ≤ m) (h2 : m ≤ b) (_h3 : b ≤ l.length) : l = l.take a ++ ((l.drop a).take (m - a) ++ ((l.drop m).take (b - m) ++ l.drop b)) := by
  have e1 : l.drop m = (l.drop m).take (b - m) ++ l.drop b := by
    conv => lhs; rw [← List.take_append_drop (b - m) (l.drop m)]
    rw [List.drop_drop, show m + (b - m) = b by omega]
  have e2 : l.drop a = (l.drop a).take (m - a) ++ l.drop m := by
    conv => lhs; rw [← List.take_append_drop (m - a) (l.drop a)]
    rw [List.drop_drop, show a + (m - a) = m by omega]
  conv => lhs; rw [← List.take_append_drop a l]
  rw [← e1, ← e2]

/-- symMerge over an array. -/
def SymArr (P : Program) (k : Nat) (enc : α → List Value) (cf : α → α → Int) (g : Nat) (cb : Array Value) (blk off cap n : Nat) (w0 : World) : Prop :=
  ∀ (ai mi bi : Int) (a m b : Nat) (d : Array α) (W : World), ai = (a : Nat) → mi = (m : Nat) → bi = (b : Nat) → a < m → m < b → b ≤ n → d.size = n → SortedIn (ltOf cf) a m d → SortedIn (ltOf cf) m b d → SWK enc k w0 blk off d W →
    Calls P 17 #[.slice (some ⟨blk, off, none⟩) n cap, .int .i64 ai, .int .i64 mi, .int .i64 bi, .func (.func g) #[] cb] W fun e w' => e = .returned (.tuple #[]) ∧
      ∃ d' : Array α, d'.size = n ∧ (∀ i, i < a ∨ b ≤ i → d'[i]! = d[i]!) ∧ SortedIn (ltOf cf) a b d' ∧ SWK enc k w0 blk off d' w'

theorem symArr_of {k : Nat} {enc : α → List Value} {cf : α → α → Int} {g : Nat} {cb : Array Value} {blk off cap n : Nat} {w0 : World} (h : ∀ N, SymSpec P k enc cf g cb blk off cap n w0 N) : SymArr P k enc cf g cb blk off cap n w0 := by
  intro ai mi bi a m b d W hai hmi hbi ham hmb hbn hd hs1 hs2 S
  have hl : d.toList.length = n := by simpa using hd
  have hcut := list_cut d.toList a m b (by omega) (by omega) (by omega)
  have e0 : d = (d.toList.take a ++ ((d.toList.drop a).take (m - a) ++ ((d.toList.drop m).take (b - m) ++ d.toList.drop b))).toArray := by rw [← hcut]
  have l1 : (d.toList.take a).length = a := by simp; omega
  have l2 : ((d.toList.drop a).take (m - a)).length = m - a := by simp; omega
  have l3 : ((d.toList.drop m).take (b - m)).length = b - m := by simp; omega
  have a1 := asc_of_sorted hs1 (by omega)
  have a2 := asc_of_sorted hs2 (by omega)
  rw [e0] at S
  have hh := h (b - a) ai mi bi _ _ _ _ W (by rw [l1]; exact hai) (by rw [l1, l2, hmi]; omega) (by rw [l1, l2, l3, hbi]; omega) (by rw [l2, l3]; omega) (by rw [l2]; omega) (by rw [l3]; omega) a1 a2 (by rw [← hcut]; exact hl) S
  refine hh.mono ?_
  rintro e w' ⟨rfl, Y, y1, y2, S2⟩
  have yl := y1.length_eq
  rw [List.length_append, l2, l3] at yl
  have hq : (d.toList.drop b).length = n - b := by simp; omega
  refine ⟨rfl, _, ?_, ?_, ?_, S2⟩
  · simp only [List.size_toArray, List.length_append, l1, yl, hq]; omega
  · intro i hi
    have := out_same (d.toList.take a) ((d.toList.drop a).take (m - a) ++ (d.toList.drop m).take (b - m)) Y (d.toList.drop b) (by rw [List.length_append, l2, l3, yl]) a b l1.symm (by rw [List.length_append, l1, l2, l3]; omega) i hi
    rw [this, List.append_assoc, ← e0]
  · exact sorted_of_asc _ Y _ y2 a b l1.symm (by rw [l1, yl]; omega)
end Go.Proofs.Ybulkxfo
