import Derived.Test.YbulkxfoBuild
import Derived.Shelf.Spec.SlicesGrow
import Derived.Ground.Names8Prog
namespace Go.Proofs
open Go.Shelf
shelf_lay_g Lays8.n4 Nm8 4 at Yba 12 as Yba.grow
end Go.Proofs
namespace Go.Proofs.Ybulkxfo
open Go.Shelf Go.RowKit Go.Lib Go.Sort

theorem flat_append (D E : Array Lot) : flatK encL 7 (D ++ E) = flatK encL 7 D ++ flatK encL 7 E := by
  refine val_ext (by simp [Nat.add_mul]) fun t ht => ?_
  have ht' : t < (D ++ E).size * 7 := by simpa using ht
  rw [flat_at _ t ht', Array.getElem?_append]
  have hs : (D ++ E).size = D.size + E.size := by simp
  by_cases hc : t < D.size * 7
  · rw [if_pos (by simpa using hc), flat_at D t hc, getElem!_pos (D ++ E) _ (by omega), getElem!_pos D _ (by omega), Array.getElem_append_left (by omega)]
  · rw [if_neg (by simpa using hc), size_flatK, flat_at E (t - D.size * 7) (by omega), getElem!_pos (D ++ E) _ (by omega), getElem!_pos E _ (by omega), Array.getElem_append_right (by omega)]
    congr 2
    · congr 2; omega
    · omega
theorem zero_flat (n : Nat) : Builtin.zeroCells (Value.agg #[.string ⟨#[]⟩, .string ⟨#[]⟩, .int .i32 0, .int .i64 0, .int .i64 0, .int .i64 0, .int .i64 0]).cells n = flatK encL 7 (mkD n) := by
  rw [← made_flat]
  rfl
theorem mkD_append (a b : Nat) : mkD a ++ mkD b = mkD (a + b) := by simp [mkD]

/-- What slices.Grow(s, n) leaves: the slice itself where there is room; else a new row that begins as the old one. -/
def Grew (w w' : World) (g l c n : Nat) (D : Array Lot) (g' c' : Nat) (D' : Array Lot) : Prop :=
  l + n ≤ c' ∧ c' ≤ maxLen ∧ RowB w' g' D' ∧ D'.size = c' ∧ (∀ i, i < l → D'[i]! = D[i]!) ∧ (l + n ≤ c → g' = g) ∧ (g' = g ∨ g' = w.heap.size) ∧ RowKit.Below w.heap.size w w'
theorem grow_any (g l c n : Nat) (D : Array Lot) (w : World) (h : RowB w g D) (hD : D.size = c) (hlc : l ≤ c) (hn : l + n ≤ 3000) (hc : c ≤ 3000) :
    Calls Yba.prog 12 #[.slice (some ⟨g, 0, none⟩) l c, .int .i64 n] w fun e w' => ∃ g' c' D', e = .returned (.slice (some ⟨g', 0, none⟩) l c') ∧ Grew w w' g l c n D g' c' D' := by
  by_cases hr : l + n ≤ c
  · have hg := Any8.slices_Grow_room Yba.grow (some ⟨g, 0, none⟩) l c n w hlc (by omega) (by omega) hr
    change Calls Yba.prog 12 _ _ _ at hg
    refine hg.mono ?_
    rintro e w' ⟨rfl, rfl⟩
    exact ⟨g, c, D, rfl, hr, by unfold maxLen; omega, h, hD, fun _ _ => rfl, fun _ => rfl, .inl rfl, RowKit.Below.refl _ _⟩
  · obtain ⟨i0, hi, hz0, hz1, hz2⟩ := info_parts Yba.info29
    have hcl : (flatK encL 7 D).toList.length = c * i0.size := by rw [hz1, ← hD]; simp
    have hg := Any8.slices_Grow_grow Yba.grow i0 _ hi hz0 (by omega) (some ⟨g, 0, none⟩) l c n (flatK encL 7 D).toList w hlc (by omega) (by rw [hz2]; omega) (by omega) hcl (fun h => by cases h) (fun a ha j v hj => by
      cases ha
      rw [show (⟨g, 0, none⟩ : Addr).add j = ⟨g, j, none⟩ by unfold Addr.add; split <;> simp_all]
      rw [cell_of_row w g j _ 29 (0, 0) h]
      simpa using hj)
    have et : Yba.grow_ren.t 25 = 29 := rfl
    rw [et] at hg
    have hge := grownCap_ge w (l + n) c 29
    have hcm := grownCap_le_maxLen w (l + n) c 29 (by unfold maxLen; omega)
    generalize grownCap w (l + n) c 29 = G at hg hge hcm
    change Calls Yba.prog 12 _ _ _ at hg
    refine hg.mono ?_
    rintro e w' ⟨rfl, rfl⟩
    refine ⟨w.heap.size, G, D ++ mkD (G - c), rfl, hge, hcm, ?_, by simp [size_mkD]; omega, fun i hi => ?_, fun h => absurd h hr, .inr rfl, ((RowKit.Below.refl _ w).drew).alloc (Nat.le_refl _) _⟩
    · have e1 : (flatK encL 7 D).toList.toArray ++ Builtin.zeroCells (Value.agg #[.string ⟨#[]⟩, .string ⟨#[]⟩, .int .i32 0, .int .i64 0, .int .i64 0, .int .i64 0, .int .i64 0]).cells (l + n - c) ++ Builtin.zeroCells (Value.agg #[.string ⟨#[]⟩, .string ⟨#[]⟩, .int .i32 0, .int .i64 0, .int .i64 0, .int .i64 0, .int .i64 0]).cells (G - (l + n)) = flatK encL 7 (D ++ mkD (G - c)) := by
        rw [zero_flat, zero_flat, Array.toArray_toList, Array.append_assoc, ← flat_append (mkD _), mkD_append, ← flat_append, show l + n - c + (G - (l + n)) = G - c by omega]
      rw [e1]
      exact heap_alloc_new w.drew _
    · rw [getElem!_pos (D ++ mkD (G - c)) i (by simp; omega), getElem!_pos D i (by omega), Array.getElem_append_left (by omega)]
end Go.Proofs.Ybulkxfo
