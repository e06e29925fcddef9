import Derived.Test.YbulkxhsHandlers
namespace Go.Proofs.Ybulkxhs
open Go.RowKit
theorem four (w : World) (o0 o1 o2 o3 : Obj) : ((((w.alloc o0).alloc o1).alloc o2).alloc o3).heap[w.heap.size]? = some o0 ∧ ((((w.alloc o0).alloc o1).alloc o2).alloc o3).heap[w.heap.size + 1]? = some o1 ∧
    ((((w.alloc o0).alloc o1).alloc o2).alloc o3).heap[w.heap.size + 2]? = some o2 ∧ ((((w.alloc o0).alloc o1).alloc o2).alloc o3).heap.size = w.heap.size + 4 ∧
    Below w.heap.size w ((((w.alloc o0).alloc o1).alloc o2).alloc o3) := by
  obtain ⟨h1, h2, h3, h4, h5⟩ := five w o0 o1 o2 o3 o3
  rw [heap_alloc_old _ _ (by simp; omega)] at h1
  rw [heap_alloc_old _ _ (by simp)] at h2
  rw [heap_alloc_old _ _ (by simp)] at h3
  exact ⟨h1, h2, h3, by simp, ((((Below.refl _ _).alloc (Nat.le_refl _) _).alloc (by simp) _).alloc (by simp; omega) _).alloc (by simp; omega) _⟩
theorem eql_nil75 (f : Nat) (b : Array Value) (w : World) : (binOp .eql 75 (.func (.func f) #[] b) .nilFunc).run Yba.prog w = .ok (.bool false) w := by kernel_rfl
theorem eql_nilnil (w : World) : (binOp .eql 30 .nilFunc .nilFunc).run Yba.prog w = .ok (.bool true) w := by kernel_rfl
set_option maxHeartbeats 800000 in
set_option maxRecDepth 100000 in
theorem sets_nil (a0 : Int) (a1 a2 : Bool) (a3 a5 : Int) (w : World) :
    Calls Yba.prog 4 #[.int .i64 a0, .bool a1, .bool a2, .int .i64 a3, .bool true, .int .i64 a5] w fun e w' => e = .returned (.bool true) ∧ Below w.heap.size w w' := by
  have e1 := eql_nil75
  have e2 := eql_nilnil
  have e3 := eql_nil
  go_enter Yba.func4, Yba.ntmps4
  go_wp2
  go_end0
  go_wp2
  go_ret
  exact ⟨rfl, (((((Below.refl _ _).alloc (Nat.le_refl _) _).alloc (by simp) _).alloc (by simp; omega) _).alloc (by simp; omega) _)⟩
set_option maxHeartbeats 800000 in
set_option maxRecDepth 100000 in
theorem sets_mine (a0 : Int) (a1 a2 : Bool) (a3 a5 : Int) (w : World) :
    Calls Yba.prog 4 #[.int .i64 a0, .bool a1, .bool a2, .int .i64 a3, .bool false, .int .i64 a5] w fun e w' => e = .returned (.bool true) ∧ Below w.heap.size w w' := by
  have e1 := eql_nil75
  have e3 := eql_nil
  go_enter Yba.func4, Yba.ntmps4
  go_wp2
  go_end0
  go_wp2_with fail
  obtain ⟨hN, hM, hO, hS, hb⟩ := four w _ _ _ _
  refine (mine_int (w.heap.size + 1) (w.heap.size + 4) 0 _ [] a5 _ hM (by omega) (by rw [hS]; omega) (World.ownsRow_nil _ _ _ _) (by omega)).mono ?_
  rintro e w6 ⟨rfl, g, c, p1, p2, p3, p4, p5, p6, p7⟩
  have hO6 := (p3 (w.heap.size + 2) (by omega) (by omega)).trans hO
  have hN6 := (p3 (w.heap.size) (by omega) (by omega)).trans hN
  have c6 := cell4 hO6
  have cN := cell0 hN6
  have c8 := cell0 p1
  have c9 : w6.cell? ⟨g, 0, none⟩ = some (.int .i64 a5) := p2.cells (g := g) rfl 0 _ rfl
  have hb6 : Below w.heap.size w w6 := ⟨p5.trans hb.os, p6.trans hb.tape, p7.trans hb.output, by have := hb.size; omega, fun k hk => (p3 k (by omega) (by omega)).trans (hb.block k hk)⟩
  have s6 : w.heap.size + 4 ≤ w6.heap.size := by omega
  clear hN hM hO hS hb p3 p4 p5 p6 p7
  go_wp2_with fail
  refine (mine_str (w.heap.size + 1) (w.heap.size + 4) 1 _ _ _ _ p1 (by omega) (by omega) p2 (by omega)).mono ?_
  rintro e w7 ⟨rfl, g7, c7, r1, r2, r3, r4, r5, r6, r7⟩
  have d1 := cell0 r1
  have d2 := cell0 ((r3 (w.heap.size) (by omega) (by omega)).trans hN6)
  have d3 : w7.cell? ⟨g7, 1, none⟩ = some (.int .i64 (-1)) := r2.cells (g := g7) rfl 1 _ rfl
  have hb7 : Below w.heap.size w w7 := hb6.trans ⟨r5, r6, r7, r4, fun k hk => r3 k (by omega) (by omega)⟩
  clear p1 p2 r1 r2 r3 r4 r5 r6 r7 hb6 hO6 hN6 c6 cN c8 c9 e1 e3
  go_wp2
  go_ret
  exact ⟨rfl, hb7⟩
end Go.Proofs.Ybulkxhs
