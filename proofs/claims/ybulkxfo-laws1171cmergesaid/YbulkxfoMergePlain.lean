import Derived.Test.YbulkxfoGrow
namespace Go.Proofs.Ybulkxfo
open Go.Shelf Go.RowKit Go.Lib Go.Sort

section
set_option linter.unusedSectionVars false
variable {α : Type}
/-- The stable merge: at equals the first list's element comes first. -/
def mrg (lt : α → α → Bool) (xs ys : List α) : List α := xs.merge ys fun x y => !lt y x
theorem mrg_cons (lt : α → α → Bool) (x y : α) (xs ys : List α) : mrg lt (x :: xs) (y :: ys) = if lt y x = false then x :: mrg lt xs (y :: ys) else y :: mrg lt (x :: xs) ys := by
  unfold mrg; rw [List.cons_merge_cons]; cases lt y x <;> simp
theorem mrg_nil_left (lt : α → α → Bool) (ys : List α) : mrg lt [] ys = ys := by unfold mrg; simp
theorem mrg_nil_right (lt : α → α → Bool) (xs : List α) : mrg lt xs [] = xs := by unfold mrg; simp
theorem mrg_length (lt : α → α → Bool) (xs ys : List α) : (mrg lt xs ys).length = xs.length + ys.length := by unfold mrg; exact List.length_merge ..

variable [Inhabited α] {lt : α → α → Bool}
theorem asc_tail {x : α} {xs : List α} (h : Asc lt (x :: xs)) : Asc lt xs := (List.pairwise_cons.1 h).2
theorem asc_head {x : α} {xs : List α} (h : Asc lt (x :: xs)) : ∀ y ∈ xs, lt y x = false := (List.pairwise_cons.1 h).1

/-- The greatest of the first list comes last. -/
theorem mrg_snoc_gt (hO : SWO lt) (x y : α) (hyx : lt y x = true) : ∀ (xs ys : List α), Asc lt (xs ++ [x]) → Asc lt (ys ++ [y]) → mrg lt (xs ++ [x]) (ys ++ [y]) = mrg lt xs (ys ++ [y]) ++ [x] := by
  intro xs
  induction xs with
  | nil =>
    intro ys
    induction ys with
    | nil => intro _ _; simp only [List.nil_append]; rw [mrg_cons, if_neg (by rw [hyx]; simp), mrg_nil_right, mrg_nil_left]; rfl
    | cons z ys ih =>
      intro hx hy
      have hzy : lt y z = false := asc_head hy y (by simp)
      have hzx : lt z x = true := by
        cases hc : lt z x with
        | true => rfl
        | false => have := hO.ntrans y z x hzy hc; rw [hyx] at this; cases this
      have := ih hx (asc_tail hy)
      simp only [List.nil_append, List.cons_append] at this ⊢
      rw [mrg_cons, if_neg (by rw [hzx]; simp), this, mrg_nil_left, mrg_nil_left]
      rfl
  | cons a xs ihx =>
    intro ys
    induction ys with
    | nil =>
      intro hx hy
      have := ihx [] (asc_tail hx) hy
      simp only [List.nil_append, List.cons_append] at this ⊢
      rw [mrg_cons, mrg_cons]
      by_cases hc : lt y a = false
      · rw [if_pos hc, if_pos hc, this]; rfl
      · rw [if_neg hc, if_neg hc, mrg_nil_right, mrg_nil_right]; rfl
    | cons b ys ihy =>
      intro hx hy
      have h1 := ihx (b :: ys) (asc_tail hx) hy
      have h2 := ihy hx (asc_tail hy)
      simp only [List.cons_append] at h1 h2 ⊢
      rw [mrg_cons, mrg_cons]
      by_cases hc : lt b a = false
      · rw [if_pos hc, if_pos hc, h1]; rfl
      · rw [if_neg hc, if_neg hc, h2]; rfl

/-- The last of the second list comes last. -/
theorem mrg_snoc_le (hO : SWO lt) (x y : α) (hyx : lt y x = false) : ∀ (xs ys : List α), Asc lt (xs ++ [x]) → Asc lt (ys ++ [y]) → mrg lt (xs ++ [x]) (ys ++ [y]) = mrg lt (xs ++ [x]) ys ++ [y] := by
  intro xs
  induction xs with
  | nil =>
    intro ys
    induction ys with
    | nil => intro _ _; simp only [List.nil_append]; rw [mrg_cons, if_pos hyx, mrg_nil_left, mrg_nil_right]; rfl
    | cons z ys ih =>
      intro hx hy
      have := ih hx (asc_tail hy)
      simp only [List.nil_append, List.cons_append] at this ⊢
      rw [mrg_cons, mrg_cons]
      by_cases hc : lt z x = false
      · rw [if_pos hc, if_pos hc, mrg_nil_left, mrg_nil_left]; rfl
      · rw [if_neg hc, if_neg hc, this]; rfl
  | cons a xs ihx =>
    intro ys
    induction ys with
    | nil =>
      intro hx hy
      have := ihx [] (asc_tail hx) hy
      have hax : lt x a = false := asc_head hx x (by simp)
      have hya : lt y a = false := hO.ntrans y x a hyx hax
      simp only [List.nil_append, List.cons_append] at this ⊢
      rw [mrg_cons, if_pos hya, this, mrg_nil_right, mrg_nil_right]; rfl
    | cons b ys ihy =>
      intro hx hy
      have h1 := ihx (b :: ys) (asc_tail hx) hy
      have h2 := ihy hx (asc_tail hy)
      simp only [List.cons_append] at h1 h2 ⊢
      rw [mrg_cons, mrg_cons]
      by_cases hc : lt b a = false
      · rw [if_pos hc, if_pos hc, h1]; rfl
      · rw [if_neg hc, if_neg hc, h2]; rfl

/-- An array's first n elements, as a list. -/
def pre (D : Array α) (n : Nat) : List α := (List.range n).map fun i => D[i]!
theorem pre_len (D : Array α) (n : Nat) : (pre D n).length = n := by simp [pre]
theorem pre_succ (D : Array α) (n : Nat) : pre D (n + 1) = pre D n ++ [D[n]!] := by simp [pre, List.range_succ]
theorem pre_at (D : Array α) (n i : Nat) (h : i < n) : (pre D n)[i]? = some D[i]! := by simp [pre, h]
theorem pre_zero (D : Array α) : pre D 0 = [] := rfl
theorem pre_asc {D : Array α} {n m : Nat} (h : SortedIn lt 0 n D) (hm : m ≤ n) : Asc lt (pre D m) := by
  refine List.pairwise_iff_getElem.2 fun i j hi hj hij => ?_
  rw [pre_len] at hi hj
  simp only [pre, List.getElem_map, List.getElem_range]
  exact h i j (by omega) hij (by omega)

/-- How the merge from the back stands: p of the first, q of the second are still to be merged; behind them stands the merge's end. -/
def MB (lt : α → α → Bool) (D E : Array α) (n m p q : Nat) (F : Array α) : Prop :=
  p ≤ n ∧ q ≤ m ∧ (∀ i, i < p → F[i]! = D[i]!) ∧ (mrg lt (pre D n) (pre E m)).take (p + q) = mrg lt (pre D p) (pre E q) ∧ ∀ t, p + q ≤ t → t < n + m → some F[t]! = (mrg lt (pre D n) (pre E m))[t]?

theorem mb_start (D E F : Array α) (n m : Nat) (h : ∀ i, i < n → F[i]! = D[i]!) : MB lt D E n m n m F :=
  ⟨Nat.le_refl _, Nat.le_refl _, h, by rw [List.take_of_length_le (by rw [mrg_length, pre_len, pre_len]; exact Nat.le_refl _)], fun t h1 h2 => by omega⟩
theorem take_snoc_at {l : List α} {k : Nat} {x : α} {r : List α} (h : l.take (k + 1) = r ++ [x]) (hk : r.length = k) : l.take k = r ∧ l[k]? = some x := by
  have h1 : (l.take (k + 1)).take k = l.take k := by rw [List.take_take]; congr 1; omega
  have h2 : (l.take (k + 1))[k]? = l[k]? := by rw [List.getElem?_take, if_pos (by omega)]
  rw [h] at h1 h2
  exact ⟨by rw [← h1, List.take_append_of_le_length (by omega), List.take_of_length_le (by omega)], by rw [← h2, List.getElem?_append_right (by omega), hk]; simp⟩
theorem set_at (F : Array α) (k : Nat) (x : α) (hk : k < F.size) (t : Nat) : (F.setIfInBounds k x)[t]! = if t = k then x else F[t]! := by
  by_cases h : t = k
  · subst h; rw [if_pos rfl]; exact getElem!_set_same F t x hk
  · rw [if_neg h]; exact getElem!_set_other F k t x h
theorem mb_gt (hO : SWO lt) {D E F : Array α} {n m p q : Nat} (h : MB lt D E n m (p + 1) (q + 1) F) (hD : SortedIn lt 0 n D) (hE : SortedIn lt 0 m E) (hF : n + m ≤ F.size) (hlt : lt E[q]! D[p]! = true) :
    MB lt D E n m p (q + 1) (F.setIfInBounds (p + q + 1) D[p]!) := by
  obtain ⟨h1, h2, h3, h4, h5⟩ := h
  have e := mrg_snoc_gt hO D[p]! E[q]! hlt (pre D p) (pre E q) (by rw [← pre_succ]; exact pre_asc hD h1) (by rw [← pre_succ]; exact pre_asc hE h2)
  rw [← pre_succ, ← pre_succ] at e
  rw [e, show p + 1 + (q + 1) = p + (q + 1) + 1 by omega] at h4
  obtain ⟨k1, k2⟩ := take_snoc_at h4 (by rw [mrg_length, pre_len, pre_len])
  refine ⟨by omega, h2, fun i hi => ?_, k1, fun t t1 t2 => ?_⟩
  · rw [set_at F _ _ (by omega), if_neg (by omega)]; exact h3 i (by omega)
  · rw [set_at F _ _ (by omega)]
    by_cases ht : t = p + q + 1
    · rw [if_pos ht, ht, ← k2]; rfl
    · rw [if_neg ht]; exact h5 t (by omega) t2
theorem mb_le (hO : SWO lt) {D E F : Array α} {n m p q : Nat} (h : MB lt D E n m p (q + 1) F) (hD : SortedIn lt 0 n D) (hE : SortedIn lt 0 m E) (hF : n + m ≤ F.size) (hlt : p = 0 ∨ lt E[q]! D[p - 1]! = false) :
    MB lt D E n m p q (F.setIfInBounds (p + q) E[q]!) := by
  obtain ⟨h1, h2, h3, h4, h5⟩ := h
  have e : mrg lt (pre D p) (pre E (q + 1)) = mrg lt (pre D p) (pre E q) ++ [E[q]!] := by
    rcases Nat.eq_zero_or_pos p with h0 | h0
    · subst h0; rw [pre_zero, mrg_nil_left, mrg_nil_left, pre_succ]
    · obtain ⟨r, rfl⟩ : ∃ r, p = r + 1 := ⟨p - 1, by omega⟩
      have e := mrg_snoc_le hO D[r]! E[q]! (hlt.resolve_left (by omega)) (pre D r) (pre E q) (by rw [← pre_succ]; exact pre_asc hD h1) (by rw [← pre_succ]; exact pre_asc hE h2)
      rwa [← pre_succ, ← pre_succ] at e
  rw [e, show p + (q + 1) = p + q + 1 by omega] at h4
  obtain ⟨k1, k2⟩ := take_snoc_at h4 (by rw [mrg_length, pre_len, pre_len])
  refine ⟨h1, by omega, fun i hi => ?_, k1, fun t t1 t2 => ?_⟩
  · rw [set_at F _ _ (by omega), if_neg (by omega)]; exact h3 i hi
  · rw [set_at F _ _ (by omega)]
    by_cases ht : t = p + q
    · rw [if_pos ht, ht, ← k2]
    · rw [if_neg ht]; exact h5 t (by omega) t2
theorem mb_end {D E F : Array α} {n m p : Nat} (h : MB lt D E n m p 0 F) : ∀ t, t < n + m → some F[t]! = (mrg lt (pre D n) (pre E m))[t]? := by
  obtain ⟨h1, h2, h3, h4, h5⟩ := h
  intro t ht
  by_cases hc : t < p
  · rw [pre_zero, mrg_nil_right, Nat.add_zero] at h4
    have : ((mrg lt (pre D n) (pre E m)).take p)[t]? = (pre D p)[t]? := by rw [h4]
    rw [List.getElem?_take, if_pos hc, pre_at D p t hc] at this
    rw [this, h3 t hc]
  · exact h5 t (by omega) ht
end
end Go.Proofs.Ybulkxfo
