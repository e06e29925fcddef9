import Derived.Test.YbulkxfoSymLast
namespace Go.Proofs.Ybulkxfo
open Go.Sort
variable {α : Type} [Inhabited α]
set_option linter.unusedSectionVars false

/-- Ascending: no later one is less than an earlier one. -/
def Asc (lt : α → α → Bool) (l : List α) : Prop := l.Pairwise fun x y => lt y x = false

theorem asc_append {lt : α → α → Bool} {l1 l2 : List α} : Asc lt (l1 ++ l2) ↔ Asc lt l1 ∧ Asc lt l2 ∧ ∀ x ∈ l1, ∀ y ∈ l2, lt y x = false := List.pairwise_append

theorem asc_get {lt : α → α → Bool} (hO : SWO lt) {l : List α} (h : Asc lt l) (i j : Nat) (hij : i ≤ j) (hj : j < l.length) : lt (l[j]?.getD default) (l[i]?.getD default) = false := by
  rcases Nat.lt_or_eq_of_le hij with hlt | rfl
  · have := List.pairwise_iff_getElem.1 h i j (by omega) hj hlt
    simpa [List.getElem?_eq_getElem hj, List.getElem?_eq_getElem (show i < l.length by omega)] using this
  · exact hO.irrefl _

/-- Where the array's element stands: in the first stretch, in the second. -/
theorem at_A (p A B q : List α) (t : Nat) (h1 : p.length ≤ t) (h2 : t < p.length + A.length) : (p ++ (A ++ (B ++ q))).toArray[t]! = (A[t - p.length]?).getD default := by
  rw [arr_get, List.getElem?_append_right h1, List.getElem?_append_left (by omega)]
theorem at_B (p A B q : List α) (t : Nat) (h1 : p.length + A.length ≤ t) (h2 : t < p.length + A.length + B.length) : (p ++ (A ++ (B ++ q))).toArray[t]! = (B[t - p.length - A.length]?).getD default := by
  rw [arr_get, List.getElem?_append_right (by omega), List.getElem?_append_right (by omega), List.getElem?_append_left (by omega)]

theorem mem_take_idx {l : List α} {r : Nat} {x : α} (h : x ∈ l.take r) : ∃ i, i < r ∧ i < l.length ∧ x = (l[i]?).getD default := by
  obtain ⟨i, hi, rfl⟩ := List.getElem_of_mem h
  have hi' : i < r ∧ i < l.length := by simpa [Nat.lt_min] using hi
  exact ⟨i, hi'.1, hi'.2, by simp [List.getElem_take, List.getElem?_eq_getElem hi'.2]⟩
theorem mem_drop_idx {l : List α} {r : Nat} {x : α} (h : x ∈ l.drop r) : ∃ i, r ≤ i ∧ i < l.length ∧ x = (l[i]?).getD default := by
  obtain ⟨i, hi, rfl⟩ := List.getElem_of_mem h
  have hi' : r + i < l.length := by simp at hi; omega
  exact ⟨r + i, by omega, hi', by simp [List.getElem_drop, List.getElem?_eq_getElem hi']⟩

theorem lt_asymm {lt : α → α → Bool} (hO : SWO lt) {x y : α} (h : lt x y = true) : lt y x = false := by
  cases hyx : lt y x with
  | false => rfl
  | true => have := hO.trans x y x h hyx; rw [hO.irrefl] at this; cases this

/-- The two halves after the split: nothing of the second is less than anything of the first. -/
theorem split_ok {lt : α → α → Bool} (hO : SWO lt) (p A B q : List α) (hA : Asc lt A) (hB : Asc lt B) (a m b mid st r s : Nat) (ha : a = p.length) (hm : m = a + A.length) (hb : b = m + B.length)
    (b1 : a ≤ st) (b2 : r ≤ m) (b3 : mid + m ≤ st + b) (b4 : r ≤ mid) (c1 : st = a ∨ st + b = mid + m) (c2 : r = m ∨ r = mid) (h1 : st ≤ s) (h2 : s ≤ r)
    (HI : s = st ∨ lt (p ++ (A ++ (B ++ q))).toArray[mid + m - 1 - (s - 1)]! (p ++ (A ++ (B ++ q))).toArray[s - 1]! = false)
    (HJ : s = r ∨ lt (p ++ (A ++ (B ++ q))).toArray[mid + m - 1 - s]! (p ++ (A ++ (B ++ q))).toArray[s]! = true) :
    ∀ x ∈ A.take (s - a) ++ B.take (mid - s), ∀ y ∈ A.drop (s - a) ++ B.drop (mid - s), lt y x = false := by
  intro x hx y hy
  rcases List.mem_append.1 hx with hx | hx <;> rcases List.mem_append.1 hy with hy | hy
  · obtain ⟨i, i1, i2, rfl⟩ := mem_take_idx hx
    obtain ⟨j, j1, j2, rfl⟩ := mem_drop_idx hy
    exact asc_get hO hA i j (by omega) j2
  · obtain ⟨i, i1, i2, rfl⟩ := mem_take_idx hx
    obtain ⟨j, j1, j2, rfl⟩ := mem_drop_idx hy
    have key := HI.resolve_left (by omega)
    rw [at_A p A B q (s - 1) (by omega) (by omega), at_B p A B q (mid + m - 1 - (s - 1)) (by omega) (by omega)] at key
    exact hO.ntrans _ _ _ (hO.ntrans _ _ _ (asc_get hO hB (mid + m - 1 - (s - 1) - p.length - A.length) j (by omega) j2) key) (asc_get hO hA i (s - 1 - p.length) (by omega) (by omega))
  · obtain ⟨i, i1, i2, rfl⟩ := mem_take_idx hx
    obtain ⟨j, j1, j2, rfl⟩ := mem_drop_idx hy
    have key := lt_asymm hO (HJ.resolve_left (by omega))
    rw [at_A p A B q s (by omega) (by omega), at_B p A B q (mid + m - 1 - s) (by omega) (by omega)] at key
    exact hO.ntrans _ _ _ (hO.ntrans _ _ _ (asc_get hO hA (s - p.length) j (by omega) j2) key) (asc_get hO hB i (mid + m - 1 - s - p.length - A.length) (by omega) (by omega))
  · obtain ⟨i, i1, i2, rfl⟩ := mem_take_idx hx
    obtain ⟨j, j1, j2, rfl⟩ := mem_drop_idx hy
    exact asc_get hO hB i j (by omega) j2

theorem swp_adj (l1 : List α) (x y : α) (l2 : List α) (a : Nat) (ha : a = l1.length) : swp (l1 ++ (x :: (y :: l2))).toArray a (a + 1) = (l1 ++ (y :: (x :: l2))).toArray := by
  subst ha
  have := swr_lists l1 [x] [] [y] l2 rfl l1.length (l1.length + 1) 1 rfl (by simp) rfl
  simpa [swr] using this
theorem swp_turn (d : Array α) (i j : Nat) (hi : i < d.size) (hj : j < d.size) : swp d i j = swp d j i := by
  refine arr_ext (by rw [size_swp, size_swp]) fun t _ => ?_
  rw [swp_get _ hi hj, swp_get _ hj hi]
  by_cases e1 : t = j <;> by_cases e2 : t = i <;> simp_all

/-- Carrying the one element to the right. -/
theorem shl_list (p : List α) (x : α) (B q : List α) (a : Nat) (ha : a = p.length) : ∀ t, t ≤ B.length → shl a t (p ++ (x :: (B ++ q))).toArray = (p ++ (B.take t ++ (x :: (B.drop t ++ q)))).toArray := by
  intro t
  induction t with
  | zero => intro _; simp [shl]
  | succ t ih =>
    intro ht
    rw [shl, ih (by omega)]
    have hd : B.drop t = B[t] :: B.drop (t + 1) := List.drop_eq_getElem_cons (by omega)
    have := swp_adj (p ++ B.take t) x B[t] (B.drop (t + 1) ++ q) (a + t) (by simp; omega)
    rw [hd]
    rw [List.take_succ_eq_append_getElem (by omega)]
    simp only [List.append_assoc, List.cons_append, List.nil_append] at this ⊢
    exact this

/-- Carrying the one element to the left. -/
theorem shr_list (p A : List α) (x : α) (q : List α) (m : Nat) (hm : m = p.length + A.length) : ∀ t, t ≤ A.length → shr m t (p ++ (A ++ (x :: q))).toArray = (p ++ (A.take (A.length - t) ++ (x :: (A.drop (A.length - t) ++ q)))).toArray := by
  intro t
  induction t with
  | zero => intro _; simp [shr]
  | succ t ih =>
    intro ht
    rw [shr, ih (by omega)]
    have hlt : A.length - (t + 1) < A.length := by omega
    have ht1 : A.take (A.length - t) = A.take (A.length - (t + 1)) ++ [A[A.length - (t + 1)]] := by
      rw [show A.length - t = A.length - (t + 1) + 1 by omega, List.take_succ_eq_append_getElem hlt]
    have hd1 : A.drop (A.length - (t + 1)) = A[A.length - (t + 1)] :: A.drop (A.length - t) := by
      rw [List.drop_eq_getElem_cons hlt, show A.length - (t + 1) + 1 = A.length - t by omega]
    have := swp_adj (p ++ A.take (A.length - (t + 1))) A[A.length - (t + 1)] x (A.drop (A.length - t) ++ q) (m - t - 1) (by simp; omega)
    rw [swp_turn _ _ _ (by simp; omega) (by simp; omega), ht1, hd1]
    rw [show m - t - 1 + 1 = m - t by omega] at this
    simp only [List.append_assoc, List.cons_append, List.nil_append] at this ⊢
    exact this

/-- One element into an ascending list, from the left. -/
theorem one_ok {lt : α → α → Bool} (hO : SWO lt) (p : List α) (x : α) (B q : List α) (hB : Asc lt B) (a m b i : Nat) (ha : a = p.length) (hm : m = a + 1) (hb : b = m + B.length) (h1 : m ≤ i) (h2 : i ≤ b)
    (HI : i = m ∨ lt (p ++ ([x] ++ (B ++ q))).toArray[i - 1]! (p ++ ([x] ++ (B ++ q))).toArray[a]! = true) (HJ : i = b ∨ lt (p ++ ([x] ++ (B ++ q))).toArray[i]! (p ++ ([x] ++ (B ++ q))).toArray[a]! = false) :
    ∃ Y, Y.Perm ([x] ++ B) ∧ Asc lt Y ∧ shl a (i - 1 - a) (p ++ ([x] ++ (B ++ q))).toArray = (p ++ (Y ++ q)).toArray := by
  refine ⟨B.take (i - m) ++ (x :: B.drop (i - m)), ?_, ?_, ?_⟩
  · have h := List.perm_middle (a := x) (l₁ := B.take (i - m)) (l₂ := B.drop (i - m))
    rw [List.take_append_drop] at h
    exact h
  · refine asc_append.2 ⟨hB.sublist (List.take_sublist _ _), ?_, ?_⟩
    · refine List.pairwise_cons.2 ⟨fun y hy => ?_, hB.sublist (List.drop_sublist _ _)⟩
      obtain ⟨j, j1, j2, rfl⟩ := mem_drop_idx hy
      have key := HJ.resolve_left (by omega)
      rw [at_A p [x] B q a (by omega) (by simp; omega), at_B p [x] B q i (by simp; omega) (by simp; omega), show a - p.length = 0 by omega] at key
      exact hO.ntrans _ _ _ (asc_get hO hB (i - p.length - [x].length) j (by simp; omega) j2) (by simpa using key)
    · intro z hz y hy
      obtain ⟨e, e1, e2, rfl⟩ := mem_take_idx hz
      have key := HI.resolve_left (by omega)
      rw [at_A p [x] B q a (by omega) (by simp; omega), at_B p [x] B q (i - 1) (by simp; omega) (by simp; omega), show a - p.length = 0 by omega] at key
      have key' := lt_asymm hO (by simpa using key : lt _ x = true)
      have hz' := asc_get hO hB e (i - 1 - p.length - [x].length) (by simp; omega) (by simp; omega)
      rcases List.mem_cons.1 hy with rfl | hy
      · exact hO.ntrans _ _ _ (by simpa using key') (by simpa using hz')
      · obtain ⟨j, j1, j2, rfl⟩ := mem_drop_idx hy
        exact asc_get hO hB e j (by omega) j2
  · have := shl_list p x B q a ha (i - 1 - a) (by omega)
    rw [show i - 1 - a = i - m by omega] at this ⊢
    simpa using this

/-- One element into an ascending list, from the right. -/
theorem last_ok {lt : α → α → Bool} (hO : SWO lt) (p A : List α) (x : α) (q : List α) (hA : Asc lt A) (a m i : Nat) (ha : a = p.length) (hm : m = a + A.length) (h1 : a ≤ i) (h2 : i ≤ m)
    (HI : i = a ∨ lt (p ++ (A ++ ([x] ++ q))).toArray[m]! (p ++ (A ++ ([x] ++ q))).toArray[i - 1]! = false) (HJ : i = m ∨ lt (p ++ (A ++ ([x] ++ q))).toArray[m]! (p ++ (A ++ ([x] ++ q))).toArray[i]! = true) :
    ∃ Y, Y.Perm (A ++ [x]) ∧ Asc lt Y ∧ shr m (m - i) (p ++ (A ++ ([x] ++ q))).toArray = (p ++ (Y ++ q)).toArray := by
  refine ⟨A.take (i - a) ++ (x :: A.drop (i - a)), ?_, ?_, ?_⟩
  · have h := List.perm_middle (a := x) (l₁ := A.take (i - a)) (l₂ := A.drop (i - a))
    rw [List.take_append_drop] at h
    exact h.trans (List.perm_append_singleton x A).symm
  · refine asc_append.2 ⟨hA.sublist (List.take_sublist _ _), ?_, ?_⟩
    · refine List.pairwise_cons.2 ⟨fun y hy => ?_, hA.sublist (List.drop_sublist _ _)⟩
      obtain ⟨j, j1, j2, rfl⟩ := mem_drop_idx hy
      have key := lt_asymm hO (HJ.resolve_left (by omega))
      rw [at_A p A [x] q i (by omega) (by omega), at_B p A [x] q m (by omega) (by simp; omega), show m - p.length - A.length = 0 by omega] at key
      exact hO.ntrans _ _ _ (asc_get hO hA (i - p.length) j (by omega) j2) (by simpa using key)
    · intro z hz y hy
      obtain ⟨e, e1, e2, rfl⟩ := mem_take_idx hz
      have key := HI.resolve_left (by omega)
      rw [at_A p A [x] q (i - 1) (by omega) (by omega), at_B p A [x] q m (by omega) (by simp; omega), show m - p.length - A.length = 0 by omega] at key
      have hz' := asc_get hO hA e (i - 1 - p.length) (by omega) (by omega)
      rcases List.mem_cons.1 hy with rfl | hy
      · exact hO.ntrans _ _ _ (by simpa using key) hz'
      · obtain ⟨j, j1, j2, rfl⟩ := mem_drop_idx hy
        exact asc_get hO hA e j (by omega) j2
  · have := shr_list p A x q m (by omega) (m - i) (by omega)
    rw [show A.length - (m - i) = i - a by omega] at this
    simpa using this
end Go.Proofs.Ybulkxfo
