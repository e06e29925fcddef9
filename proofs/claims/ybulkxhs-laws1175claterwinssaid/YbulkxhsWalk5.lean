import Derived.Test.YbulkxhsHandlers
namespace Go.Proofs.Ybulkxhs
open Go.RowKit
set_option maxHeartbeats 800000 in
set_option maxRecDepth 100000 in
theorem later_yes (a0 a1 : Int) (w : World) :
    Calls Yba.prog 5 #[.int .i64 a0, .int .i64 a1, .bool true] w fun e w' => e = .returned (.bool true) ∧ Below w.heap.size w w' := by
  have e12 := eql_nil 12
  have e13 := eql_nil 13
  go_enter Yba.func5, Yba.ntmps5
  go_wp2_with (first | (go_at_call 12; fail) | (go_at_call 13; fail) | go_in)
  go_end0
  go_wp2_with (first | (go_at_call 12; fail) | (go_at_call 13; fail) | go_in)
  go_end0
  go_wp2_with fail
  obtain ⟨hN, hM, hO, hS, hb⟩ := five w _ _ _ _ _
  refine (ha_int (w.heap.size) (w.heap.size + 5) 0 _ [] a0 _ hN (by omega) (by rw [hS]; omega) (World.ownsRow_nil _ _ _ _) (by omega)).mono ?_
  rintro e w6 ⟨rfl, g, c, p1, p2, p3, p4, p5, p6, p7⟩
  have hO6 := (p3 (w.heap.size + 2) (by omega) (by omega)).trans hO
  have ho6 := (p3 (w.heap.size + 1) (by omega) (by omega)).trans hM
  have c6 := cell4 hO6
  have hb6 : Below w.heap.size w w6 := ⟨p5.trans hb.os, p6.trans hb.tape, p7.trans hb.output, by have := hb.size; omega, fun k hk => (p3 k (by omega) (by omega)).trans (hb.block k hk)⟩
  have s6 : w.heap.size + 5 ≤ w6.heap.size := by omega
  clear hN hM hO hS hb p3 p4 p5 p6 p7
  go_wp2_with fail
  refine (ha_int (w.heap.size) (w.heap.size + 5) 1 _ _ a1 _ p1 (by omega) (by omega) p2 (by omega)).mono ?_
  rintro e w7 ⟨rfl, g7, c7, r1, r2, r3, r4, r5, r6, r7⟩
  have d1 := cell0 r1
  have d2 := cell0 ((r3 (w.heap.size + 1) (by omega) (by omega)).trans ho6)
  have d3 : w7.cell? ⟨g7, 0, none⟩ = some (.int .i64 a0) := r2.cells (g := g7) rfl 0 _ rfl
  have d4 : w7.cell? ⟨g7, 1, none⟩ = some (.int .i64 a1) := r2.cells (g := g7) rfl 1 _ rfl
  have hb7 : Below w.heap.size w w7 := hb6.trans ⟨r5, r6, r7, r4, fun k hk => r3 k (by omega) (by omega)⟩
  clear p1 p2 r1 r2 r3 r4 r5 r6 r7 hb6 hO6 ho6 c6 e12 e13
  go_wp2
  go_ret
  exact ⟨rfl, hb7⟩
set_option maxHeartbeats 800000 in
set_option maxRecDepth 100000 in
theorem later_no (a0 a1 : Int) (w : World) :
    Calls Yba.prog 5 #[.int .i64 a0, .int .i64 a1, .bool false] w fun e w' => e = .returned (.bool true) ∧ Below w.heap.size w w' := by
  have e12 := eql_nil 12
  have e13 := eql_nil 13
  go_enter Yba.func5, Yba.ntmps5
  go_wp2_with (first | (go_at_call 12; fail) | (go_at_call 13; fail) | go_in)
  go_end0
  go_wp2_with (first | (go_at_call 12; fail) | (go_at_call 13; fail) | go_in)
  go_end0
  go_wp2_with fail
  obtain ⟨hN, hM, hO, hS, hb⟩ := five w _ _ _ _ _
  refine (hb_int (w.heap.size + 1) (w.heap.size + 5) 0 _ [] a0 _ hM (by omega) (by rw [hS]; omega) (World.ownsRow_nil _ _ _ _) (by omega)).mono ?_
  rintro e w6 ⟨rfl, g, c, p1, p2, p3, p4, p5, p6, p7⟩
  have hO6 := (p3 (w.heap.size + 2) (by omega) (by omega)).trans hO
  have ho6 := (p3 (w.heap.size) (by omega) (by omega)).trans hN
  have c6 := cell4 hO6
  have hb6 : Below w.heap.size w w6 := ⟨p5.trans hb.os, p6.trans hb.tape, p7.trans hb.output, by have := hb.size; omega, fun k hk => (p3 k (by omega) (by omega)).trans (hb.block k hk)⟩
  have s6 : w.heap.size + 5 ≤ w6.heap.size := by omega
  clear hN hM hO hS hb p3 p4 p5 p6 p7
  go_wp2_with fail
  refine (hb_int (w.heap.size + 1) (w.heap.size + 5) 1 _ _ a1 _ p1 (by omega) (by omega) p2 (by omega)).mono ?_
  rintro e w7 ⟨rfl, g7, c7, r1, r2, r3, r4, r5, r6, r7⟩
  have d1 := cell0 r1
  have d2 := cell0 ((r3 (w.heap.size) (by omega) (by omega)).trans ho6)
  have d3 : w7.cell? ⟨g7, 0, none⟩ = some (.int .i64 a0) := r2.cells (g := g7) rfl 0 _ rfl
  have d4 : w7.cell? ⟨g7, 1, none⟩ = some (.int .i64 a1) := r2.cells (g := g7) rfl 1 _ rfl
  have hb7 : Below w.heap.size w w7 := hb6.trans ⟨r5, r6, r7, r4, fun k hk => r3 k (by omega) (by omega)⟩
  clear p1 p2 r1 r2 r3 r4 r5 r6 r7 hb6 hO6 ho6 c6 e12 e13
  go_wp2
  go_ret
  exact ⟨rfl, hb7⟩
end Go.Proofs.Ybulkxhs
