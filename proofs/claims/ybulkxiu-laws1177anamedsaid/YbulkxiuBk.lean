import Derived.Test.YbulkxiuBj
namespace Go.Proofs.Ybulkxiu
open Go.RowKit
set_option maxRecDepth 100000

theorem info47 : (Yba.prog.info? 47).map (fun i => (i.zero, i.size, i.bytes)) = some (some (.pointer none), 1, 8) := by kernel_rfl
theorem make40 (W : World) (len : Nat) (h : len ≤ 512) : (Instr.makeSlice 40 (.int .i64 (len : Int)) (.int .i64 (len : Int))).run Yba.prog W = .ok (.slice (some ⟨W.heap.size, 0, none⟩) len len) (W.alloc (.cells (madeCells #[.pointer none] (len * 1)) 47)) := by
  obtain ⟨i0, qi, qz0, qz1, qz2⟩ := info_parts info47
  have hr := run_make (P := Yba.prog) W 40 47 i0 _ Yba.underlying40 qi qz0 .i64 .i64 len len (by omega) (Int.le_refl _) (by rw [qz2]; omega) (by omega)
  rw [qz1] at hr
  simp only [Int.toNat_natCast] at hr
  exact hr
theorem make41 (W : World) (len : Nat) (h : len ≤ 512) : (Instr.makeSlice 41 (.int .i64 (len : Int)) (.int .i64 (len : Int))).run Yba.prog W = .ok (.slice (some ⟨W.heap.size, 0, none⟩) len len) (W.alloc (.cells (madeCells #[.int .u32 0] (len * 1)) 45)) := by
  obtain ⟨i0, qi, qz0, qz1, qz2⟩ := info_parts info45
  have hr := run_make (P := Yba.prog) W 41 45 i0 _ Yba.underlying41 qi qz0 .i64 .i64 len len (by omega) (Int.le_refl _) (by rw [qz2]; omega) (by omega)
  rw [qz1] at hr
  simp only [Int.toNat_natCast] at hr
  exact hr

/-- What the builder lays first. -/
def obs (H len : Nat) : Array Obj := #[.cells #[.string ⟨#[109, 46, 114, 111, 111, 109, 46, 109, 101, 109, 98, 101, 114]⟩, .string ⟨#[109, 46, 114, 111, 111, 109, 46, 112, 111, 119, 101, 114, 95, 108, 101, 118, 101, 108, 115]⟩] 62, .cells #[.string ⟨#[]⟩, .string ⟨#[64, 97, 58, 120]⟩] 62, .cells #[.slice none 0 0, .map none, .map none, .map none, .map none, .slice none 0 0, .slice none 0 0] 39, .map #[] 0, .cells #[.func (.func 9) #[] #[], .map (some (H + 1 + 1 + 1)), .slice none 0 0, .slice none 0 0] 69, .cells #[.slice none 0 0, .slice none 0 0, .slice none 0 0, .slice none 0 0, .slice none 0 0] 44, .cells (madeCells #[.pointer none] len) 47, .cells (madeCells #[.int .u32 0] len) 45]
def G0 : PG := ⟨0, fun _ => 0, fun _ => false, fun _ => false, fun _ => 0, fun _ => 0, fun _ => 0⟩
def F0 (H len : Nat) : Fx := ⟨H, H + 2, H + 5, H + 4, H + 3, H + 6, H + 7, H, H + 1, len⟩
def tg0 (H : Nat) (b : Nat) : Nat := if b = H + 2 then 2 else if b = H + 3 then 5 else if b = H + 4 then 1 else if b = H + 5 then 3 else if b = H + 6 then 21 else if b = H + 7 then 25 else 0
def S0 (H : Nat) : GS := ⟨tg0 H, .slice none 0 0, none, G0, fun _ => .slice none 0 0, fun _ => [], fun _ => [], fun _ => [], ⟨.slice none 0 0, .slice none 0 0, .slice none 0 0, .slice none 0 0, .slice none 0 0⟩, fun _ => .slice none 0 0, fun _ => .slice none 0 0, fun _ => [], 0, .slice none 0 0, .slice none 0 0, fun _ => none, fun _ => 0⟩
theorem heap8 (w : World) (o1 o2 o3 o4 o5 o6 o7 o8 : Obj) : ((((((((w.alloc o1).alloc o2).alloc o3).alloc o4).alloc o5).alloc o6).alloc o7).alloc o8).heap = w.heap ++ #[o1, o2, o3, o4, o5, o6, o7, o8] := by
  show (((((((w.heap.push o1).push o2).push o3).push o4).push o5).push o6).push o7).push o8 = _
  apply Array.ext'
  simp
theorem BI0 (w w' : World) (len : Nat) (hl : len ≤ 512) (hh : w'.heap = w.heap ++ obs w.heap.size len) (ho : w'.os = w.os) (ht : w'.tape = w.tape) (hu : w'.output = w.output) : BI (F0 w.heap.size len) w (S0 w.heap.size) 0 w' := by
  have at_ : ∀ k o, (obs w.heap.size len)[k]? = some o → w'.heap[w.heap.size + k]? = some o := fun k o h => by
    rw [hh, Array.getElem?_append_right (by omega), show w.heap.size + k - w.heap.size = k by omega]; exact h
  have hsz : w'.heap.size = w.heap.size + 8 := by rw [hh, Array.size_append]; rfl
  have ty := at_ 0 _ rfl
  have ky := at_ 1 _ rfl
  have gb := at_ 2 _ rfl
  have mb := at_ 3 _ rfl
  have xb := at_ 4 _ rfl
  have mm := at_ 5 _ rfl
  have se : w'.heap[w.heap.size + 6]? = some (.cells (madeCells #[.pointer none] len) 47 (0, 0)) := at_ 6 _ rfl
  have no : w'.heap[w.heap.size + 7]? = some (.cells (madeCells #[.int .u32 0] len) 45 (0, 0)) := at_ 7 _ rfl
  have bel : RowKit.Below w.heap.size w w' := ⟨ho, ht, hu, by omega, fun b hb => by rw [hh, Array.getElem?_append_left hb]⟩
  refine ⟨⟨⟨Nat.zero_le _, fun k hk => absurd hk (by show ¬ k < 0; omega), fun k hk => absurd hk (by show ¬ k < 0; omega)⟩, ⟨_, gb, rfl, rfl⟩, ?_, ?_, RowF.nil _ _ _ _ _ _ _, fun k hk => absurd hk (by show ¬ k < 0; omega), fun k hk => absurd hk (by show ¬ k < 0; omega), fun k hk => absurd hk (by show ¬ k < 0; omega), fun k hk => absurd hk (by show ¬ k < 0; omega), Or.inl ⟨rfl, fun k hk => absurd hk (by show ¬ k < 0; omega)⟩, fun k hk => absurd hk (by show ¬ k < 0; omega)⟩,
    ⟨⟨_, mm, rfl, rfl, rfl, rfl, rfl, rfl⟩, ?_, ?_, RowF.nil _ _ _ _ _ _ _, RowF.nil _ _ _ _ _ _ _, RowF.nil _ _ _ _ _ _ _, RowF.nil _ _ _ _ _ _ _, RowF.nil _ _ _ _ _ _ _, fun k hk => absurd hk (by show ¬ k < 0; omega), fun k hk => absurd hk (by show ¬ k < 0; omega)⟩,
    ⟨⟨_, xb, rfl, rfl, rfl, fun p => absurd p (by omega)⟩, ?_, ?_, RowF.nil _ _ _ _ _ _ _, RowF.nil _ _ _ _ _ _ _, ?_, ?_, ?_, Nat.le_refl _⟩,
    ⟨?_, ?_, ?_, ?_, ?_, ?_, ?_, ?_⟩, fun j hj => absurd hj (by omega), fun j hj => absurd hj (by omega), fun k hk => absurd hk (by show ¬ k < 0; omega), fun _ => by show (0 : Nat) ≤ _; omega, fun _ _ => rfl, Nat.le_refl _, Nat.zero_le _, hl, bel, by show w.heap.size ≤ _; omega, fun b hb => ?_, fun k hk => absurd hk (by show ¬ k < 0; omega)⟩
  all_goals simp only [F0, S0]
  · simp [tg0]
  · omega
  · simp [tg0]
  · omega
  · simp [tg0]
  · omega
  · have e : (((w.alloc (.map #[] 0)).alloc (.map #[] 0)).alloc (.map #[] 0)).heap.size = w.heap.size + 3 := by simp
    have h := MapV.made (((w.alloc (.map #[] 0)).alloc (.map #[] 0)).alloc (.map #[] 0)) 77 .u64
    have h2 := heap_alloc_new (((w.alloc (.map #[] 0)).alloc (.map #[] 0)).alloc (.map #[] 0)) (.map #[] 0)
    rw [e] at h h2
    have e0 : (fun _ : Int => (none : Option Value)) = slotF 0 := by
      funext x; unfold slotF; rw [if_neg (by omega)]
    rw [e0] at h
    exact h.of ((mb.trans rfl).trans h2.symm)
  · simp [tg0]
  · omega
  · refine ⟨_, ⟨?_, Or.inr ⟨w.heap.size + 6, len, _, rfl, by omega, se, Nat.le_refl _, by unfold maxLen; omega, by rw [size_madeCells, Nat.mul_one], List.take_of_length_le (by rw [Array.length_toList, size_madeCells, Nat.mul_one]; exact Nat.le_refl _)⟩⟩, fun j hj => ?_, fun b hb => ?_⟩
    · rw [Array.length_toList, size_madeCells, Nat.mul_one]
    · rw [Nat.mul_one] at hj
      rw [toList_madeCells_one]
      simp [seC, hj]
    · have : w.heap.size + 6 = b := by simpa [Value.ownBlock] using hb
      subst this; simp [tg0]
  · refine ⟨_, ⟨?_, Or.inr ⟨w.heap.size + 7, len, _, rfl, by omega, no, Nat.le_refl _, by unfold maxLen; omega, by rw [size_madeCells, Nat.mul_one], List.take_of_length_le (by rw [Array.length_toList, size_madeCells, Nat.mul_one]; exact Nat.le_refl _)⟩⟩, fun j hj => ?_, fun b hb => ?_⟩
    · rw [Array.length_toList, size_madeCells, Nat.mul_one]
    · rw [Nat.mul_one] at hj
      rw [toList_madeCells_one]
      simp [noC, hj]
    · have : w.heap.size + 7 = b := by simpa [Value.ownBlock] using hb
      subst this; simp [tg0]
  · rw [cell_of_row w' w.heap.size 0 _ 62 (0, 0) ty]; rfl
  · rw [cell_of_row w' w.heap.size 1 _ 62 (0, 0) ty]; rfl
  · rw [cell_of_row w' (w.heap.size + 1) 0 _ 62 (0, 0) ky]; rfl
  · rw [cell_of_row w' (w.heap.size + 1) 1 _ 62 (0, 0) ky]; rfl
  · simp [tg0]
  · simp [tg0]
  · have hb' : b < w.heap.size := hb
    unfold tg0
    rw [if_neg (by omega), if_neg (by omega), if_neg (by omega), if_neg (by omega), if_neg (by omega), if_neg (by omega)]
end Go.Proofs.Ybulkxiu
