import Derived.Test.YbulkxfoKit
namespace Go.Proofs.Ybulkxfo
open Go.Sort
variable {α : Type} [Inhabited α]

theorem swr_get (a b : Nat) (d : Array α) : ∀ n, a + n ≤ b → b + n ≤ d.size → ∀ t, (swr a b n d)[t]! = if a ≤ t ∧ t < a + n then d[t - a + b]! else if b ≤ t ∧ t < b + n then d[t - b + a]! else d[t]! := by
  intro n
  induction n with
  | zero => intro _ _ t; rw [if_neg (by omega), if_neg (by omega)]; rfl
  | succ n ih =>
    intro h1 h2 t
    have ih := ih (by omega) (by omega)
    rw [swr, swp_get _ (by rw [size_swr]; omega) (by rw [size_swr]; omega), ih t, ih (a + n), ih (b + n)]
    by_cases e1 : t = b + n
    · subst e1
      rw [if_pos rfl, if_neg (by omega), if_neg (by omega), if_neg (by omega), if_pos (by omega)]
      congr 1; omega
    · rw [if_neg e1]
      by_cases e2 : t = a + n
      · subst e2
        rw [if_pos rfl, if_neg (by omega), if_neg (by omega), if_pos (by omega)]
        congr 1; omega
      · rw [if_neg e2]
        by_cases c1 : a ≤ t ∧ t < a + n
        · rw [if_pos c1, if_pos (by omega)]
        · by_cases c2 : b ≤ t ∧ t < b + n
          · rw [if_neg c1, if_pos c2, if_neg (by omega), if_pos (by omega)]
          · rw [if_neg c1, if_neg c2, if_neg (by omega), if_neg (by omega)]

theorem arr_get (l : List α) (t : Nat) : l.toArray[t]! = (l[t]?).getD default := by
  simp [Array.getElem!_eq_getD, Array.getD_eq_getD_getElem?]

theorem arr_ext {x y : Array α} (hs : x.size = y.size) (h : ∀ t, t < x.size → x[t]! = y[t]!) : x = y :=
  Array.ext hs fun t h1 h2 => by have := h t h1; rwa [getElem!_pos x t h1, getElem!_pos y t h2] at this

/-- swapRange on lists: two stretches of one length exchange their places. -/
theorem swr_lists (p x y z q : List α) (hxz : x.length = z.length) (a b n : Nat) (ha : a = p.length) (hb : b = p.length + x.length + y.length) (hn : n = x.length) :
    swr a b n (p ++ (x ++ (y ++ (z ++ q)))).toArray = (p ++ (z ++ (y ++ (x ++ q)))).toArray := by
  subst ha hb hn
  have hsz : ((p ++ (x ++ (y ++ (z ++ q)))).toArray).size = p.length + (x.length + (y.length + (z.length + q.length))) := by simp
  refine arr_ext (by rw [size_swr, hsz]; simp; omega) fun t ht => ?_
  rw [swr_get _ _ _ _ (by omega) (by rw [hsz]; omega)]
  simp only [arr_get]
  rw [size_swr, hsz] at ht
  congr 1
  by_cases c1 : p.length ≤ t ∧ t < p.length + x.length
  · rw [if_pos c1]
    simp only [List.getElem?_append]
    rw [if_neg (by omega), if_neg (by omega), if_neg (by omega), if_pos (by omega), if_neg (by omega), if_pos (by omega)]
    rw [show t - p.length + (p.length + x.length + y.length) - p.length - x.length - y.length = t - p.length by omega]
  · rw [if_neg c1]
    by_cases c2 : p.length + x.length + y.length ≤ t ∧ t < p.length + x.length + y.length + x.length
    · rw [if_pos c2]
      simp only [List.getElem?_append]
      rw [if_neg (by omega), if_pos (by omega), if_neg (by omega), if_neg (by omega), if_neg (by omega), if_pos (by omega)]
      rw [show t - (p.length + x.length + y.length) + p.length - p.length = t - p.length - z.length - y.length by omega]
    · rw [if_neg c2]
      simp only [List.getElem?_append, hxz]
      by_cases c3 : t < p.length
      · rw [if_pos c3, if_pos c3]
      · have k1 : ¬ t - p.length < z.length := by omega
        rw [if_neg c3, if_neg c3, if_neg k1, if_neg k1]
        by_cases c4 : t - p.length - z.length < y.length
        · rw [if_pos c4, if_pos c4]
        · have k2 : ¬ t - p.length - z.length - y.length < z.length := by omega
          rw [if_neg c4, if_neg c4, if_neg k2, if_neg k2]
end Go.Proofs.Ybulkxfo
