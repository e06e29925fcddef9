import Derived.Test.YbulkxfoStable
namespace Go.Proofs.Ybulkxfo
open Go.Shelf Go.RowKit Go.Lib Go.Sort
/-- A lot as the law builds it: its account (one of three; 0: none, the zero value's), its day, its shares. -/
abbrev Lot := Fin 4 × Int × Int
def acc : Fin 4 → ByteArray
  | 0 => ⟨#[]⟩
  | 1 => ⟨#[97]⟩
  | 2 => ⟨#[98]⟩
  | 3 => ⟨#[99]⟩
def encL (x : Lot) : List Value := [.string (acc x.1), .string ⟨#[]⟩, .int .i32 x.2.1, .int .i64 x.2.2, .int .i64 0, .int .i64 0, .int .i64 0]
def c3 (a b : Fin 4) : Int := if a < b then -1 else if b < a then 1 else 0
def cI (a b : Int) : Int := if a < b then -1 else if b < a then 1 else 0
def cfL (x y : Lot) : Int := if c3 x.1 y.1 = 0 then cI x.2.1 y.2.1 else c3 x.1 y.1
theorem nan_str (s : ByteArray) (w : World) : Calls Yba.prog 14 #[.string s] w fun e w' => e = .returned (.bool false) ∧ w = w' := by
  go_enter Yba.func14, Yba.ntmps14
  go_wp2
  go_ret
  exact ⟨rfl, rfl⟩
set_option maxRecDepth 100000 in
theorem cmp_str (a b : Fin 4) (w : World) : Calls Yba.prog 10 #[.string (acc a), .string (acc b)] w fun e w' => e = .returned (.int .i64 (c3 a b)) ∧ w = w' := by
  match a, b with
  | 0, 0 =>
    have hb : Op.bytesLess [] [] = false := by decide
    simp only [acc]
    go_enter Yba.func10, Yba.ntmps10
    go_wp2_with (go_at_call 14; refine (nan_str _ _).mono ?_; rintro e w' ⟨rfl, rfl⟩)
    go_ret
    exact ⟨rfl, rfl⟩
  | 0, 1 =>
    have hb : Op.bytesLess [] [97] = true := by decide
    simp only [acc]
    go_enter Yba.func10, Yba.ntmps10
    go_wp2_with (go_at_call 14; refine (nan_str _ _).mono ?_; rintro e w' ⟨rfl, rfl⟩)
    go_ret
    exact ⟨rfl, rfl⟩
  | 0, 2 =>
    have hb : Op.bytesLess [] [98] = true := by decide
    simp only [acc]
    go_enter Yba.func10, Yba.ntmps10
    go_wp2_with (go_at_call 14; refine (nan_str _ _).mono ?_; rintro e w' ⟨rfl, rfl⟩)
    go_ret
    exact ⟨rfl, rfl⟩
  | 0, 3 =>
    have hb : Op.bytesLess [] [99] = true := by decide
    simp only [acc]
    go_enter Yba.func10, Yba.ntmps10
    go_wp2_with (go_at_call 14; refine (nan_str _ _).mono ?_; rintro e w' ⟨rfl, rfl⟩)
    go_ret
    exact ⟨rfl, rfl⟩
  | 1, 0 =>
    have hb : Op.bytesLess [97] [] = false := by decide
    simp only [acc]
    go_enter Yba.func10, Yba.ntmps10
    go_wp2_with (go_at_call 14; refine (nan_str _ _).mono ?_; rintro e w' ⟨rfl, rfl⟩)
    go_ret
    exact ⟨rfl, rfl⟩
  | 1, 1 =>
    have hb : Op.bytesLess [97] [97] = false := by decide
    simp only [acc]
    go_enter Yba.func10, Yba.ntmps10
    go_wp2_with (go_at_call 14; refine (nan_str _ _).mono ?_; rintro e w' ⟨rfl, rfl⟩)
    go_ret
    exact ⟨rfl, rfl⟩
  | 1, 2 =>
    have hb : Op.bytesLess [97] [98] = true := by decide
    simp only [acc]
    go_enter Yba.func10, Yba.ntmps10
    go_wp2_with (go_at_call 14; refine (nan_str _ _).mono ?_; rintro e w' ⟨rfl, rfl⟩)
    go_ret
    exact ⟨rfl, rfl⟩
  | 1, 3 =>
    have hb : Op.bytesLess [97] [99] = true := by decide
    simp only [acc]
    go_enter Yba.func10, Yba.ntmps10
    go_wp2_with (go_at_call 14; refine (nan_str _ _).mono ?_; rintro e w' ⟨rfl, rfl⟩)
    go_ret
    exact ⟨rfl, rfl⟩
  | 2, 0 =>
    have hb : Op.bytesLess [98] [] = false := by decide
    simp only [acc]
    go_enter Yba.func10, Yba.ntmps10
    go_wp2_with (go_at_call 14; refine (nan_str _ _).mono ?_; rintro e w' ⟨rfl, rfl⟩)
    go_ret
    exact ⟨rfl, rfl⟩
  | 2, 1 =>
    have hb : Op.bytesLess [98] [97] = false := by decide
    simp only [acc]
    go_enter Yba.func10, Yba.ntmps10
    go_wp2_with (go_at_call 14; refine (nan_str _ _).mono ?_; rintro e w' ⟨rfl, rfl⟩)
    go_ret
    exact ⟨rfl, rfl⟩
  | 2, 2 =>
    have hb : Op.bytesLess [98] [98] = false := by decide
    simp only [acc]
    go_enter Yba.func10, Yba.ntmps10
    go_wp2_with (go_at_call 14; refine (nan_str _ _).mono ?_; rintro e w' ⟨rfl, rfl⟩)
    go_ret
    exact ⟨rfl, rfl⟩
  | 2, 3 =>
    have hb : Op.bytesLess [98] [99] = true := by decide
    simp only [acc]
    go_enter Yba.func10, Yba.ntmps10
    go_wp2_with (go_at_call 14; refine (nan_str _ _).mono ?_; rintro e w' ⟨rfl, rfl⟩)
    go_ret
    exact ⟨rfl, rfl⟩
  | 3, 0 =>
    have hb : Op.bytesLess [99] [] = false := by decide
    simp only [acc]
    go_enter Yba.func10, Yba.ntmps10
    go_wp2_with (go_at_call 14; refine (nan_str _ _).mono ?_; rintro e w' ⟨rfl, rfl⟩)
    go_ret
    exact ⟨rfl, rfl⟩
  | 3, 1 =>
    have hb : Op.bytesLess [99] [97] = false := by decide
    simp only [acc]
    go_enter Yba.func10, Yba.ntmps10
    go_wp2_with (go_at_call 14; refine (nan_str _ _).mono ?_; rintro e w' ⟨rfl, rfl⟩)
    go_ret
    exact ⟨rfl, rfl⟩
  | 3, 2 =>
    have hb : Op.bytesLess [99] [98] = false := by decide
    simp only [acc]
    go_enter Yba.func10, Yba.ntmps10
    go_wp2_with (go_at_call 14; refine (nan_str _ _).mono ?_; rintro e w' ⟨rfl, rfl⟩)
    go_ret
    exact ⟨rfl, rfl⟩
  | 3, 3 =>
    have hb : Op.bytesLess [99] [99] = false := by decide
    simp only [acc]
    go_enter Yba.func10, Yba.ntmps10
    go_wp2_with (go_at_call 14; refine (nan_str _ _).mono ?_; rintro e w' ⟨rfl, rfl⟩)
    go_ret
    exact ⟨rfl, rfl⟩
theorem cmp_day (a b : Int) (w : World) : Calls Yba.prog 11 #[.int .i32 a, .int .i32 b] w fun e w' => e = .returned (.int .i64 (cI a b)) ∧ w = w' := by
  by_cases h1 : a < b
  · go_enter Yba.func11, Yba.ntmps11
    go_wp2
    go_ret
    exact ⟨by simp [cI, h1], rfl⟩
  · by_cases h2 : b < a
    · go_enter Yba.func11, Yba.ntmps11
      go_wp2
      go_ret
      exact ⟨by simp [cI, h1, h2], rfl⟩
    · go_enter Yba.func11, Yba.ntmps11
      go_wp2
      go_ret
      have e : cI a b = 0 := by rw [cI, if_neg (by omega), if_neg (by omega)]
      rw [e]
      exact ⟨rfl, rfl⟩
set_option maxHeartbeats 800000 in
set_option maxRecDepth 100000 in
/-- compareLots: by account, then by day; it lays its two parameters' boxes and turns nothing. -/
theorem cmp_lots (x y : Lot) (w : World) : Calls Yba.prog 6 #[.agg (encL x).toArray, .agg (encL y).toArray] w fun e w' => e = .returned (.int .i64 (cfL x y)) ∧ w' = (w.alloc (.cells (encL x).toArray 29)).alloc (.cells (encL y).toArray 29) := by
  obtain ⟨a, d, s⟩ := x
  obtain ⟨a', d', s'⟩ := y
  by_cases h : c3 a a' = 0
  · have e1 : cfL (a, d, s) (a', d', s') = cI d d' := by simp [cfL, h]
    rw [e1]
    have h0 : (c3 a a' != 0) = false := by simp [h]
    clear h e1
    simp only [encL]
    go_enter Yba.func6, Yba.ntmps6
    go_wp2_with fail
    refine (cmp_str a a' _).mono ?_
    rintro e w1 ⟨rfl, rfl⟩
    go_wp2_with fail
    refine (cmp_day d d' _).mono ?_
    rintro e w1 ⟨rfl, rfl⟩
    go_wp2
    go_ret
    exact ⟨rfl, rfl⟩
  · have e1 : cfL (a, d, s) (a', d', s') = c3 a a' := by simp [cfL, h]
    rw [e1]
    have h0 : (c3 a a' != 0) = true := by simp [h]
    clear h e1
    simp only [encL]
    go_enter Yba.func6, Yba.ntmps6
    go_wp2_with fail
    refine (cmp_str a a' _).mono ?_
    rintro e w1 ⟨rfl, rfl⟩
    go_wp2
    go_ret
    exact ⟨rfl, rfl⟩
/-- 'less', as a plain order: by the account's number, then by the day. -/
theorem lt_iff (x y : Lot) : ltOf cfL x y = true ↔ x.1.val < y.1.val ∨ x.1.val = y.1.val ∧ x.2.1 < y.2.1 := by
  unfold ltOf cfL c3 cI
  simp only [decide_eq_true_eq, Fin.lt_def]
  rcases Nat.lt_trichotomy x.1.val y.1.val with h | h | h
  · simp [h]
  · simp only [h, Nat.lt_irrefl, if_false, if_true, true_and, false_or]
    by_cases h1 : x.2.1 < y.2.1
    · simp [h1]
    · by_cases h2 : y.2.1 < x.2.1 <;> simp [h1, h2]
  · have h' : ¬ x.1.val < y.1.val := by omega
    have h2 : ¬ x.1.val = y.1.val := by omega
    simp [h, h', h2]
theorem lt_false_iff (x y : Lot) : ltOf cfL x y = false ↔ ¬ (x.1.val < y.1.val ∨ x.1.val = y.1.val ∧ x.2.1 < y.2.1) := by
  rw [← lt_iff]; cases ltOf cfL x y <;> simp
theorem swoL : SWO (ltOf cfL) := by
  refine ⟨fun x => ?_, fun x y z h1 h2 => ?_, fun x y z h1 h2 => ?_⟩
  · rw [lt_false_iff]; omega
  · rw [lt_iff] at *; omega
  · rw [lt_false_iff] at *; omega
theorem cmpLaysL (blk off size : Nat) (w : World) : CmpLays Yba.prog 6 #[] encL 7 cfL blk off size w := by
  intro m os dk _ x y
  refine (cmp_lots x y _).mono ?_
  rintro e w' ⟨rfl, rfl⟩
  refine ⟨rfl, 0, #[.cells (encL x).toArray 29, .cells (encL y).toArray 29], ?_⟩
  rw [alloc_eq_grow, alloc_eq_grow, grow_grow]
  rfl
end Go.Proofs.Ybulkxfo
