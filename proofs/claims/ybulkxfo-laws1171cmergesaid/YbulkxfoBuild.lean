import Derived.Test.YbulkxfoRowB
import Derived.Deep.RegionHeld3
namespace Go.Proofs.Ybulkxfo
open Go.Shelf Go.RowKit Go.Lib Go.Sort

theorem RowB.drew {w : World} {g : Nat} {D : Array Lot} (h : RowB w g D) : RowB w.drew g D := h
set_option maxRecDepth 100000 in
theorem acct_any (a : Int) (w : World) (h0 : 0 ≤ a) (h1 : a ≤ 255) : Calls Yba.prog 8 #[.int .u8 a] w fun e w' => ∃ k : Fin 4, e = .returned (.string (acc k)) ∧ w = w' := by
  by_cases e0 : a % 3 = 0
  · have b0 : (a % 3 == 0) = true := by simp [e0]
    clear e0
    go_enter Yba.func8, Yba.ntmps8
    go_wp2
    go_ret
    exact ⟨1, rfl, rfl⟩
  · have b0 : (a % 3 == 0) = false := by simp [e0]
    by_cases e1 : a % 3 = 1
    · have b1 : (a % 3 == 1) = true := by simp [e1]
      clear e0 e1
      go_enter Yba.func8, Yba.ntmps8
      go_wp2
      go_ret
      exact ⟨2, rfl, rfl⟩
    · have b1 : (a % 3 == 1) = false := by simp [e1]
      clear e0 e1
      go_enter Yba.func8, Yba.ntmps8
      go_wp2
      go_ret
      exact ⟨3, rfl, rfl⟩

theorem Yba.info29 : (Yba.prog.info? 29).map (fun i => (i.zero, i.size, i.bytes)) = some (some (.agg #[.string ⟨#[]⟩, .string ⟨#[]⟩, .int .i32 0, .int .i64 0, .int .i64 0, .int .i64 0, .int .i64 0]), 7, 72) := by kernel_rfl
def mkD (c : Nat) : Array Lot := Array.replicate c (0, 0, 0)
theorem size_mkD (c : Nat) : (mkD c).size = c := by simp [mkD]
theorem made_flat (c : Nat) : madeCells (Value.agg #[.string ⟨#[]⟩, .string ⟨#[]⟩, .int .i32 0, .int .i64 0, .int .i64 0, .int .i64 0, .int .i64 0]).cells (c * 7) = flatK encL 7 (mkD c) := by
  refine val_ext (by rw [size_madeCells, size_flatK, size_mkD]) fun t ht => ?_
  rw [size_madeCells] at ht
  rw [flat_at _ t (by rw [size_mkD]; exact ht)]
  have e : (mkD c)[t / 7]! = (0, 0, 0) := by
    rw [getElem!_pos _ _ (by rw [size_mkD]; omega)]; simp [mkD]
  rw [e]
  simp only [madeCells, Array.getElem?_map, Array.getElem?_range, ht, if_true, Option.map_some]
  have cc : t % 7 = 0 ∨ t % 7 = 1 ∨ t % 7 = 2 ∨ t % 7 = 3 ∨ t % 7 = 4 ∨ t % 7 = 5 ∨ t % 7 = 6 := by omega
  show some (#[Value.string ⟨#[]⟩, .string ⟨#[]⟩, .int .i32 0, .int .i64 0, .int .i64 0, .int .i64 0, .int .i64 0][t % 7]!) = _
  rcases cc with c | c | c | c | c | c | c <;> rw [c] <;> rfl
theorem run_mkL (n c : Nat) (hn : n ≤ c) (hc : c ≤ 3000) (w : World) : (Instr.makeSlice 23 (.int .i64 n) (.int .i64 c)).run Yba.prog w = .ok (.slice (some ⟨w.heap.size, 0, none⟩) n c) (w.alloc (.cells (flatK encL 7 (mkD c)) 29)) := by
  obtain ⟨i0, hi, hz0, hz1, hz2⟩ := info_parts Yba.info29
  have h := run_make (P := Yba.prog) w 23 29 i0 _ Yba.underlying23 hi hz0 .i64 .i64 n c (by omega) (by omega) (by rw [hz2]; omega) (by omega)
  rw [hz1] at h
  rw [Int.toNat_natCast, Int.toNat_natCast, made_flat] at h
  exact h

def LotAt (w : World) (b o : Nat) (x y z : Int) : Prop :=
  w.cell? ⟨b, o, none⟩ = some (.int .u8 x) ∧ w.cell? ⟨b, o + 1, none⟩ = some (.int .u8 y) ∧ w.cell? ⟨b, o + 2, none⟩ = some (.int .i64 z) ∧ 0 ≤ x ∧ x ≤ 255 ∧ 0 ≤ y ∧ y ≤ 255
/-- What the walks are told of a slice of lots that came in. -/
def IsLots (w : World) (a : Option Addr) (len : Nat) : Prop :=
  ∃ b off, (0 < len → a = some ⟨b, off, none⟩ ∧ b < w.heap.size) ∧ ∀ i, i < len → ∃ x y z, LotAt w b (off + i * 3) x y z

set_option maxHeartbeats 1600000 in
set_option maxRecDepth 100000 in
theorem build_any (a0 : Option Addr) (n cap : Nat) (r : Int) (w : World) (w0 : IsLots w a0 n) (hn : n ≤ 1024) (r0 : 0 ≤ r) (r1 : r ≤ 255) :
    Calls Yba.prog 5 #[.slice a0 n cap, .int .u8 r] w fun e w' => ∃ D : Array Lot, e = .returned (.slice (some ⟨w.heap.size, 0, none⟩) n (n + (r % 8).toNat)) ∧ D.size = n + (r % 8).toNat ∧ RowB w' w.heap.size D ∧ SortedIn (ltOf cfL) 0 n D ∧ RowKit.Below w.heap.size w w' := by
  obtain ⟨b, off, ha, hc⟩ := w0
  obtain ⟨q, hq, hq8⟩ : ∃ q : Nat, r % 8 = (q : Int) ∧ q < 8 := ⟨(r % 8).toNat, by omega, by omega⟩
  have hqt : (r % 8).toNat = q := by omega
  rw [hqt]
  have hmk := run_mkL n (n + q) (by omega) (by omega)
  have hnq : ((n + q : Nat) : Int) = (n : Int) + (q : Int) := by omega
  rw [hnq] at hmk
  clear hqt
  go_enter Yba.func5, Yba.ntmps5
  go_wp2
  have HQ : Hid (r % 8 = (q : Int)) := hq
  clear hq hnq
  go_loopw [19] (fun i wr => ∃ (k : Nat) (D : Array Lot), i = .int .i64 k ∧ k ≤ n ∧ Hid (D.size = n + q) ∧ Aside (RowB wr w.heap.size D) ∧ Aside (RowKit.Below w.heap.size w wr)) (fun i _ => n - (RowKit.intOf i).toNat)
  case atStart => exact ⟨0, mkD (n + q), rfl, by omega, size_mkD _, heap_alloc_new _ _, (RowKit.Below.refl _ _).alloc (Nat.le_refl _) _⟩
  case round =>
    obtain ⟨k, D, rfl, hk, HD, HR, HB⟩ := hrel
    by_cases hlt : k < n
    · obtain ⟨rfl, hbw⟩ := ha (by omega)
      obtain ⟨x, y, z, q0, q1, q2, x0, x1, y0, y1⟩ := hc k hlt
      have q0 := (HB.out.cell (p := ⟨b, off + k * 3, none⟩) hbw).trans q0
      have q1 := (HB.out.cell (p := ⟨b, off + k * 3 + 1, none⟩) hbw).trans q1
      have q2 := (HB.out.cell (p := ⟨b, off + k * 3 + 2, none⟩) hbw).trans q2
      clear ha hc hmk
      go_wp2_with fail
      have hV := HR.out.lt
      have R2 : RowB (wr.alloc (.cells #[.int .u8 x, .int .u8 y, .int .i64 z] 34)) w.heap.size D := HR.out.of (RowKit.Below.heap_alloc _ _ _ hV)
      have B2 : RowKit.Below w.heap.size w (wr.alloc (.cells #[.int .u8 x, .int .u8 y, .int .i64 z] 34)) := HB.out.alloc (by omega) _
      have hXh : (wr.alloc (.cells #[.int .u8 x, .int .u8 y, .int .i64 z] 34)).heap[wr.heap.size]? = some (.cells #[.int .u8 x, .int .u8 y, .int .i64 z] 34 (0, 0)) := heap_alloc_new _ _
      have hXV : wr.heap.size ≠ w.heap.size := by omega
      generalize wr.alloc (.cells #[.int .u8 x, .int .u8 y, .int .i64 z] 34) = W2 at *
      generalize wr.heap.size = X at *
      have hkD : k < D.size := by rw [HD.out]; omega
      obtain ⟨c0, c1, c2, c3, c4, c5, c6⟩ := R2.cells7 k hkD _ rfl
      have fz := R2.frozen
      have p0 : W2.cell? ⟨X, 0, none⟩ = some (.int .u8 x) := by rw [cell_of_row W2 X 0 _ 34 (0, 0) hXh]; rfl
      have p1 : W2.cell? ⟨X, 1, none⟩ = some (.int .u8 y) := by rw [cell_of_row W2 X 1 _ 34 (0, 0) hXh]; rfl
      have p2 : W2.cell? ⟨X, 2, none⟩ = some (.int .i64 z) := by rw [cell_of_row W2 X 2 _ 34 (0, 0) hXh]; rfl
      have hk7 : ∀ v0 v1 v2 v3 v4 v5 v6 o, (((((((W2.setCell ⟨w.heap.size, k * 7, none⟩ v0).setCell ⟨w.heap.size, k * 7 + 1, none⟩ v1).setCell ⟨w.heap.size, k * 7 + 2, none⟩ v2).setCell ⟨w.heap.size, k * 7 + 3, none⟩ v3).setCell ⟨w.heap.size, k * 7 + 4, none⟩ v4).setCell ⟨w.heap.size, k * 7 + 5, none⟩ v5).setCell ⟨w.heap.size, k * 7 + 6, none⟩ v6).cell? ⟨X, o, none⟩ = W2.cell? ⟨X, o, none⟩ := by
        intro v0 v1 v2 v3 v4 v5 v6 o
        refine World.cell?_of_block ?_
        rw [RowKit.Below.heap_setCell _ _ _ _ hXV, RowKit.Below.heap_setCell _ _ _ _ hXV, RowKit.Below.heap_setCell _ _ _ _ hXV, RowKit.Below.heap_setCell _ _ _ _ hXV, RowKit.Below.heap_setCell _ _ _ _ hXV, RowKit.Below.heap_setCell _ _ _ _ hXV, RowKit.Below.heap_setCell _ _ _ _ hXV]
      have R3 := toAside R2
      have B3 := toAside B2
      have kk0 : (0 : Int) ≤ (k : Int) := by omega
      have kk1 : (k : Int) < (n : Int) := by omega
      clear R2 B2 hXh HR HB hV q0 q1 q2
      go_region_held3 (fun w' => w'.cell? ⟨X, 0, none⟩ = some (.int .u8 x) ∧ w'.cell? ⟨X, 1, none⟩ = some (.int .u8 y) ∧ w'.cell? ⟨X, 2, none⟩ = some (.int .i64 z)) (go_keep) (first | (go_at_call 8; refine (acct_any x _ x0 x1).mono ?_; rintro e w' ⟨ka, rfl, rfl⟩))
      all_goals go_wp2
      have R4 := R3.out.store k hkD (ka, y % 4, z)
      have B4 := put7_below B3.out w.heap.size k (ka, y % 4, z) (Nat.le_refl _)
      unfold put7 at R4 B4
      dsimp only at R4 B4
      have hsz : (D.setIfInBounds k (ka, y % 4, z)).size = n + q := by rw [Array.size_setIfInBounds]; exact HD.out
      generalize D.setIfInBounds k (ka, y % 4, z) = D2 at hsz R4
      have R5 := toAside R4.drew
      have B5 := toAside B4.drew
      have HS2 : Hid (D2.size = n + q) := hsz
      clear R4 B4 hsz
      go_roundw
      case rel => exact ⟨k + 1, D2, by go_num, by omega, HS2, R5, B5⟩
      case measure => simp [RowKit.intOf]; omega
    · obtain rfl : k = n := by omega
      clear ha hc hmk
      have hds : (D.extract 0 k).size = k := by simp; rw [HD.out]; omega
      have hH : HoldsK encL 7 wr w.heap.size 0 (D.extract 0 k) := HR.out.holds (by rw [hds, HD.out]; omega) (fun i hi => by
        rw [hds] at hi
        rw [getElem!_pos _ i (by rw [hds]; exact hi), getElem!_pos D i (by rw [HD.out]; omega)]; simp)
      have hsort := sort_any w.heap.size 0 (k + q) (D.extract 0 k) wr hH HR.out.lt (by omega)
      rw [hds] at hsort
      have HS := toAside hsort
      clear hsort hH hds
      go_wp2_with fail
      refine (HS.out).mono ?_
      rintro e w2 ⟨rfl, d', h1, h2, S2⟩
      obtain ⟨⟨D', r1, r2, r3⟩, k1, k2, k3, k4, k5⟩ := sorted_row HR.out (by rw [h1, HD.out]; omega) S2
      have B2 : Aside (RowKit.Below w.heap.size w w2) := HB.out.trans ⟨k3, k4, k5, k2, fun j hj => k1 j (by have := HB.out.size; omega) (by omega)⟩
      have R2 := toAside r1
      have D2 : Hid (D'.size = k + q) := r2.trans HD.out
      have SS : Aside (SortedIn (ltOf cfL) 0 k D') := fun i j i1 i2 i3 => by
        rw [r3 i (by omega), r3 j (by omega)]; exact h2 i j i1 i2 i3
      clear S2 r1 r2 r3 k1 k2 k3 k4 k5 h1 h2 HS HR HB HD
      go_wp2
      go_ret
      exact ⟨D', rfl, D2.out, R2.out, SS.out, B2.out⟩
end Go.Proofs.Ybulkxfo
