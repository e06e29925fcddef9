import Derived.Test.YbulkxhsProg
import Derived.WalkKit
import Derived.WalkSpells
import Derived.WalkLawsBesides
import Derived.Laws.EntriesVeiled
import Derived.Deep.AppendLies
namespace Go.Proofs.Ybulkxhs
open Go.RowKit
theorem ta_3_3 (x : Int) (w : World) : (Instr.typeAssert (.iface 3 (.int .i64 x)) 20 3 true).run Yba.prog w = .ok (.tuple #[.int .i64 x, .bool true]) w := by kernel_rfl
theorem ta_9_3 (x : ByteArray) (w : World) : (Instr.typeAssert (.iface 9 (.string x)) 20 3 true).run Yba.prog w = .ok (.tuple #[.int .i64 0, .bool false]) w := by kernel_rfl
theorem Yba.info3 : (Yba.prog.info? 3).map (fun i => (i.zero, i.size, i.bytes)) = some (some (.int .i64 0), 1, 8) := by kernel_rfl
theorem news_one (w : World) (x : Value) (t : TypeId) (n : Nat) (h : w.heap.size = n) : ∀ j u, [x][j]? = some u → (w.alloc (.cells #[x] t)).cell? ((⟨n, 0, none⟩ : Addr).add j) = some u := by
  subst h; exact cell_one_new w x t
/-- What a handler does: block B (the captured slice variable) holds a slice that owns one number more; no other block below base has turned. -/
def Took (B base n : Nat) (xs : List Value) (x : Int) (w w' : World) : Prop :=
  ∃ g c, w'.heap[B]? = some (.cells #[.slice (some ⟨g, 0, none⟩) (n + 1) c] 22 (0, 0)) ∧ w'.ownsRow base 3 1 (.slice (some ⟨g, 0, none⟩) (n + 1) c) (n + 1) (xs ++ [.int .i64 x]) ∧
    (∀ k, k < base → k ≠ B → w'.heap[k]? = w.heap[k]?) ∧ w.heap.size ≤ w'.heap.size ∧ w'.os = w.os ∧ w'.tape = w.tape ∧ w'.output = w.output
theorem heap_set {w : World} {B : Nat} {u v : Value} {t : TypeId} (h : w.heap[B]? = some (.cells #[v] t (0, 0))) : (w.setCell ⟨B, 0, none⟩ u).heap[B]? = some (.cells #[u] t (0, 0)) := by
  simp [World.setCell, Array.getElem?_modify, h]
theorem took_of {B base n g c : Nat} {v : Value} {xs : List Value} {x : Int} {w w1 : World} (hB : B < base) (hc : w.heap[B]? = some (.cells #[v] 22 (0, 0))) (hb : Below base w w1)
    (ho : w1.ownsRow base 3 1 (.slice (some ⟨g, 0, none⟩) (n + 1) c) (n + 1) (xs ++ [.int .i64 x])) : Took B base n xs x w (w1.setCell ⟨B, 0, none⟩ (.slice (some ⟨g, 0, none⟩) (n + 1) c)) := by
  refine ⟨g, c, heap_set ((hb.block B hB).trans hc), ownsRow_setCell_below ho hB _, fun k hk hne => ?_, ?_, hb.os, hb.tape, hb.output⟩
  · rw [Below.heap_setCell _ _ _ _ hne]; exact hb.block k hk
  · have := hb.size; simpa [World.setCell] using this
set_option maxHeartbeats 400000 in
set_option maxRecDepth 100000 in
theorem ha_int (B base n : Nat) (v : Value) (xs : List Value) (x : Int) (w : World) (hc : w.heap[B]? = some (.cells #[v] 22 (0, 0))) (hB : B < base) (hbase : base ≤ w.heap.size) (ho : w.ownsRow base 3 1 v n xs) (hn : n ≤ 1000) :
    Calls Yba.prog 12 #[.iface 3 (.int .i64 x), .pointer (some ⟨B, 0, none⟩)] w fun e w' => e = .returned (.tuple #[]) ∧ Took B base n xs x w w' := by
  have t1 := ta_3_3
  obtain ⟨i0, hi, hz0, hz1, hz2⟩ := info_parts Yba.info3
  have q : w.cell? ⟨B, 0, none⟩ = some v := by rw [cell_of_row w B 0 _ _ _ hc]; rfl
  go_enter Yba.func12, Yba.ntmps12
  go_wp2_with (at_builtin; refine wpList_append_lies _ rfl (.tmp 11) (.tmp 13) 22 rfl base 3 i0 (.int .i64 0) 1 8 Yba.underlying22 hi hz0 hz1 hz2 rfl (by decide) _ _ _ rfl (ho.alloc _) ⟨w.heap.size, 0, none⟩ 1 1 [.int .i64 x] rfl rfl (news_one _ _ _ _ rfl) (by intro u hu; simp at hu; subst hu; rfl) (by omega) (by unfold maxLen; omega) (by omega) (by simp; omega) _ rfl ?_; intro g c w1 ho1 hg1 hat1 hlt1; have hb1 : Below base w w1 := ((Below.refl _ _).alloc hbase _).grown hg1 (by simp; omega) (fun j hj => (ho.lt j hj).1); have q1 := (hb1.cell (p := ⟨B, 0, none⟩) hB).trans q; have q2 : w1.frozen? ⟨B, 0, none⟩ = false := by rw [hb1.frozen (p := ⟨B, 0, none⟩) hB]; simp [World.frozen?, hc])
  go_end0
  exact ⟨rfl, took_of hB hc hb1 ho1⟩
set_option maxHeartbeats 400000 in
set_option maxRecDepth 100000 in
theorem hb_int (B base n : Nat) (v : Value) (xs : List Value) (x : Int) (w : World) (hc : w.heap[B]? = some (.cells #[v] 22 (0, 0))) (hB : B < base) (hbase : base ≤ w.heap.size) (ho : w.ownsRow base 3 1 v n xs) (hn : n ≤ 1000) :
    Calls Yba.prog 13 #[.iface 3 (.int .i64 x), .pointer (some ⟨B, 0, none⟩)] w fun e w' => e = .returned (.tuple #[]) ∧ Took B base n xs x w w' := by
  have t1 := ta_3_3
  obtain ⟨i0, hi, hz0, hz1, hz2⟩ := info_parts Yba.info3
  have q : w.cell? ⟨B, 0, none⟩ = some v := by rw [cell_of_row w B 0 _ _ _ hc]; rfl
  go_enter Yba.func13, Yba.ntmps13
  go_wp2_with (at_builtin; refine wpList_append_lies _ rfl (.tmp 11) (.tmp 13) 22 rfl base 3 i0 (.int .i64 0) 1 8 Yba.underlying22 hi hz0 hz1 hz2 rfl (by decide) _ _ _ rfl (ho.alloc _) ⟨w.heap.size, 0, none⟩ 1 1 [.int .i64 x] rfl rfl (news_one _ _ _ _ rfl) (by intro u hu; simp at hu; subst hu; rfl) (by omega) (by unfold maxLen; omega) (by omega) (by simp; omega) _ rfl ?_; intro g c w1 ho1 hg1 hat1 hlt1; have hb1 : Below base w w1 := ((Below.refl _ _).alloc hbase _).grown hg1 (by simp; omega) (fun j hj => (ho.lt j hj).1); have q1 := (hb1.cell (p := ⟨B, 0, none⟩) hB).trans q; have q2 : w1.frozen? ⟨B, 0, none⟩ = false := by rw [hb1.frozen (p := ⟨B, 0, none⟩) hB]; simp [World.frozen?, hc])
  go_end0
  exact ⟨rfl, took_of hB hc hb1 ho1⟩
set_option maxHeartbeats 400000 in
set_option maxRecDepth 100000 in
theorem mine_int (B base n : Nat) (v : Value) (xs : List Value) (x : Int) (w : World) (hc : w.heap[B]? = some (.cells #[v] 22 (0, 0))) (hB : B < base) (hbase : base ≤ w.heap.size) (ho : w.ownsRow base 3 1 v n xs) (hn : n ≤ 1000) :
    Calls Yba.prog 10 #[.iface 3 (.int .i64 x), .pointer (some ⟨B, 0, none⟩)] w fun e w' => e = .returned (.tuple #[]) ∧ Took B base n xs x w w' := by
  have t1 := ta_3_3
  obtain ⟨i0, hi, hz0, hz1, hz2⟩ := info_parts Yba.info3
  have q : w.cell? ⟨B, 0, none⟩ = some v := by rw [cell_of_row w B 0 _ _ _ hc]; rfl
  go_enter Yba.func10, Yba.ntmps10
  go_wp2_with (at_builtin; refine wpList_append_lies _ rfl (.tmp 11) (.tmp 13) 22 rfl base 3 i0 (.int .i64 0) 1 8 Yba.underlying22 hi hz0 hz1 hz2 rfl (by decide) _ _ _ rfl (ho.alloc _) ⟨w.heap.size, 0, none⟩ 1 1 [.int .i64 x] rfl rfl (news_one _ _ _ _ rfl) (by intro u hu; simp at hu; subst hu; rfl) (by omega) (by unfold maxLen; omega) (by omega) (by simp; omega) _ rfl ?_; intro g c w1 ho1 hg1 hat1 hlt1; have hb1 : Below base w w1 := ((Below.refl _ _).alloc hbase _).grown hg1 (by simp; omega) (fun j hj => (ho.lt j hj).1); have q1 := (hb1.cell (p := ⟨B, 0, none⟩) hB).trans q; have q2 : w1.frozen? ⟨B, 0, none⟩ = false := by rw [hb1.frozen (p := ⟨B, 0, none⟩) hB]; simp [World.frozen?, hc])
  go_end0
  exact ⟨rfl, took_of hB hc hb1 ho1⟩
set_option maxHeartbeats 400000 in
set_option maxRecDepth 100000 in
theorem mine_str (B base n : Nat) (v : Value) (xs : List Value) (s : ByteArray) (w : World) (hc : w.heap[B]? = some (.cells #[v] 22 (0, 0))) (hB : B < base) (hbase : base ≤ w.heap.size) (ho : w.ownsRow base 3 1 v n xs) (hn : n ≤ 1000) :
    Calls Yba.prog 10 #[.iface 9 (.string s), .pointer (some ⟨B, 0, none⟩)] w fun e w' => e = .returned (.tuple #[]) ∧ Took B base n xs (-1) w w' := by
  have t1 := ta_9_3
  obtain ⟨i0, hi, hz0, hz1, hz2⟩ := info_parts Yba.info3
  have q : w.cell? ⟨B, 0, none⟩ = some v := by rw [cell_of_row w B 0 _ _ _ hc]; rfl
  go_enter Yba.func10, Yba.ntmps10
  go_wp2_with (at_builtin; refine wpList_append_lies _ rfl (.tmp 15) (.tmp 16) 22 rfl base 3 i0 (.int .i64 0) 1 8 Yba.underlying22 hi hz0 hz1 hz2 rfl (by decide) _ _ _ rfl (ho.alloc _) ⟨w.heap.size, 0, none⟩ 1 1 [.int .i64 (-1)] rfl rfl (news_one _ _ _ _ rfl) (by intro u hu; simp at hu; subst hu; rfl) (by omega) (by unfold maxLen; omega) (by omega) (by simp; omega) _ rfl ?_; intro g c w1 ho1 hg1 hat1 hlt1; have hb1 : Below base w w1 := ((Below.refl _ _).alloc hbase _).grown hg1 (by simp; omega) (fun j hj => (ho.lt j hj).1); have q1 := (hb1.cell (p := ⟨B, 0, none⟩) hB).trans q; have q2 : w1.frozen? ⟨B, 0, none⟩ = false := by rw [hb1.frozen (p := ⟨B, 0, none⟩) hB]; simp [World.frozen?, hc])
  go_end0
  exact ⟨rfl, took_of hB hc hb1 ho1⟩

theorem eql_nil (f : Nat) (b : Array Value) (w : World) : (binOp .eql 30 (.func (.func f) #[] b) .nilFunc).run Yba.prog w = .ok (.bool false) w := by kernel_rfl
theorem five (w : World) (o0 o1 o2 o3 o4 : Obj) : (((((w.alloc o0).alloc o1).alloc o2).alloc o3).alloc o4).heap[w.heap.size]? = some o0 ∧ (((((w.alloc o0).alloc o1).alloc o2).alloc o3).alloc o4).heap[w.heap.size + 1]? = some o1 ∧
    (((((w.alloc o0).alloc o1).alloc o2).alloc o3).alloc o4).heap[w.heap.size + 2]? = some o2 ∧ (((((w.alloc o0).alloc o1).alloc o2).alloc o3).alloc o4).heap.size = w.heap.size + 5 ∧
    Below w.heap.size w (((((w.alloc o0).alloc o1).alloc o2).alloc o3).alloc o4) := by
  refine ⟨?_, ?_, ?_, by simp, ((((((Below.refl _ _).alloc (Nat.le_refl _) _).alloc (by simp) _).alloc (by simp; omega) _).alloc (by simp; omega) _).alloc (by simp; omega) _)⟩
  · rw [heap_alloc_old _ _ (by simp; omega), heap_alloc_old _ _ (by simp; omega), heap_alloc_old _ _ (by simp; omega), heap_alloc_old _ _ (by simp), heap_alloc_new]
  · have e : w.heap.size + 1 = (w.alloc o0).heap.size := by simp
    rw [e, heap_alloc_old _ _ (by simp), heap_alloc_old _ _ (by simp), heap_alloc_old _ _ (by simp), heap_alloc_new]
  · have e : w.heap.size + 2 = ((w.alloc o0).alloc o1).heap.size := by simp
    rw [e, heap_alloc_old _ _ (by simp), heap_alloc_old _ _ (by simp), heap_alloc_new]
theorem cell4 {w : World} {k : Nat} {v0 v1 v2 v3 v4 v5 : Value} {t : TypeId} (h : w.heap[k]? = some (.cells #[v0, v1, v2, v3, v4, v5] t)) : w.cell? ⟨k, 4, none⟩ = some v4 := by
  rw [cell_of_row w k 4 _ _ _ h]; rfl
theorem cell0 {w : World} {k : Nat} {v : Value} {t : TypeId} (h : w.heap[k]? = some (.cells #[v] t (0, 0))) : w.cell? ⟨k, 0, none⟩ = some v := by
  rw [cell_of_row w k 0 _ _ _ h]; rfl
end Go.Proofs.Ybulkxhs
