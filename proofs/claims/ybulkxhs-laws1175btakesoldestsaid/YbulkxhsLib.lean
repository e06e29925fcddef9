import Derived.Test.YbulkxhsHandlers
import Derived.Laws.LoneSync
import Derived.Shelf.SlicesE.Delete
import Derived.Ground.SlgnProg
namespace Go.Proofs
open Go.Shelf
shelf_lay_g SlLaysE.n45 Slgn 45 at Yba 15 as Yba.del
end Go.Proofs
namespace Go.Proofs.Ybulkxhs
open Go.RowKit Go.Shelf Go.Lib Go.Sort
set_option maxRecDepth 100000 in
theorem store_any (B o : Nat) (x y : Int) (w : World) (hc : w.cell? ⟨B, o, none⟩ = some (.int .i64 x)) (hf : w.frozen? ⟨B, o, none⟩ = false) :
    Calls Yba.prog 6 #[.pointer (some ⟨B, o, none⟩), .int .i64 y] w fun e w' => e = .returned (.tuple #[]) ∧ w' = w.setCell ⟨B, o, none⟩ (.int .i64 y) := by
  have hst := run_call_store (P := Yba.prog) Yba.func14 (by kernel_rfl) (by kernel_rfl) (by kernel_rfl) (by kernel_rfl) (k := .i64) (y := y) hc hf
  go_enter Yba.func6, Yba.ntmps6
  go_wp2
  go_end0
  exact ⟨rfl, rfl⟩
set_option maxRecDepth 100000 in
theorem load_any (B o : Nat) (x : Int) (w : World) (hc : w.cell? ⟨B, o, none⟩ = some (.int .i64 x)) :
    Calls Yba.prog 8 #[.pointer (some ⟨B, o, none⟩)] w fun e w' => e = .returned (.int .i64 x) ∧ w' = w := by
  have hst := run_call_load (P := Yba.prog) Yba.func17 (by kernel_rfl) (by kernel_rfl) (by kernel_rfl) .i64 (by kernel_rfl) hc
  go_enter Yba.func8, Yba.ntmps8
  go_wp2
  go_ret
  exact ⟨rfl, rfl⟩
set_option maxRecDepth 100000 in
theorem add_any (B o : Nat) (x : Int) (w : World) (hc : w.cell? ⟨B, o, none⟩ = some (.int .i64 x)) (hf : w.frozen? ⟨B, o, none⟩ = false) :
    Calls Yba.prog 16 #[.pointer (some ⟨B, o, none⟩), .int .i64 (-1)] w fun e w' => e = .returned (.int .i64 (wrap64 (x - 1))) ∧ w' = w.setCell ⟨B, o, none⟩ (.int .i64 (wrap64 (x - 1))) := by
  have hst := run_call_add (P := Yba.prog) Yba.func19 (by kernel_rfl) (by kernel_rfl) (by kernel_rfl) .i64 (by kernel_rfl) (y := -1) (s := wrap64 (x - 1)) hc hf (by simp [go_sem, Int.sub_eq_add_neg]; rw [IntKind.wrap_i64, wrap64])
  go_enter Yba.func16, Yba.ntmps16
  go_wp2
  go_ret
  exact ⟨rfl, rfl⟩
/-- What a step that writes into blocks B1, B2 .. alone leaves: 'Only bs w w'': every other block is as it was; the streams too. -/
structure Only (bs : List Nat) (w w' : World) : Prop where
  os : w'.os = w.os
  tape : w'.tape = w.tape
  output : w'.output = w.output
  size : w'.heap.size = w.heap.size
  block : ∀ k, k ∉ bs → w'.heap[k]? = w.heap[k]?
theorem Only.trans {bs : List Nat} {a b c : World} (h : Only bs a b) (k : Only bs b c) : Only bs a c :=
  ⟨k.os.trans h.os, k.tape.trans h.tape, k.output.trans h.output, k.size.trans h.size, fun i hi => (k.block i hi).trans (h.block i hi)⟩
theorem Only.mono {bs cs : List Nat} {a b : World} (h : Only bs a b) (hs : ∀ x, x ∈ bs → x ∈ cs) : Only cs a b :=
  ⟨h.os, h.tape, h.output, h.size, fun i hi => h.block i (fun hx => hi (hs i hx))⟩
theorem Only.cell {bs : List Nat} {w w' : World} (h : Only bs w w') {p : Addr} (hp : p.block ∉ bs) : w'.cell? p = w.cell? p := World.cell?_of_block (h.block p.block hp)
theorem Only.frozen {bs : List Nat} {w w' : World} (h : Only bs w w') {p : Addr} (hp : p.block ∉ bs) : w'.frozen? p = w.frozen? p := World.frozen?_of_block (h.block p.block hp)
theorem only_setCell (w : World) (p : Addr) (u : Value) : Only [p.block] w (w.setCell p u) :=
  ⟨rfl, rfl, rfl, by simp [World.setCell], fun k hk => Below.heap_setCell _ _ _ _ (by simpa using hk)⟩
theorem only_putRow {α : Type} [Inhabited α] (enc : α → Value) (w : World) (q V off : Nat) (d : Array α) : Only [V] w (putRow enc (Sort.ahead w q) V off d) := by
  refine ⟨rfl, rfl, rfl, by simp, fun k hk => ?_⟩
  simp only [putRow, mapBlock, Array.getElem?_modify]
  rw [if_neg (by simpa using Ne.symm (by simpa using hk))]
  rfl
theorem Yba.infoP : (Yba.prog.info? 24).map (fun i => (i.zero, i.size, i.bytes)) = some (some (.pointer none), 1, 8) := by kernel_rfl
/-- slices.Delete(s, 0, 1): the first is gone; the others moved up. -/
theorem del_any (V cap : Nat) (d : Array (Option Addr)) (w : World) (hH : Holds Value.pointer w V 0 d) (hcap : d.size ≤ cap) (hm : cap ≤ 9223372036854775807) (h1 : 1 ≤ d.size) :
    Calls Yba.prog 15 #[.slice (some ⟨V, 0, none⟩) d.size cap, .int .i64 0, .int .i64 1] w fun e w' => e = .returned (.slice (some ⟨V, 0, none⟩) (d.size - 1) cap) ∧
      (∀ j, j + 1 < d.size → w'.cell? ⟨V, j, none⟩ = some (.pointer d[j + 1]!)) ∧ Only [V] w w' := by
  obtain ⟨i0, hi, _, hz1, _⟩ := info_parts Yba.infoP
  have h := AnyE.slices_Delete Yba.del Value.pointer (fun _ => rfl) none (fun w => by kernel_rfl) i0 hi hz1 V 0 cap 0 1 d w hH hcap hm (by omega) h1
  change Calls Yba.prog 15 _ _ _ at h
  refine h.mono ?_
  rintro e w' ⟨rfl, q, rfl⟩
  refine ⟨rfl, fun j hj => ?_, only_putRow _ _ _ _ _ _⟩
  have hc := cell?_putRow Value.pointer (Sort.ahead w q) V 0 d (d.toList.take 0 ++ d.toList.drop 1 ++ List.replicate (1 - 0) none).toArray (holds_ahead _ _ _ _ _ _ hH) (by simp; omega) j (by simp; omega)
  rw [Nat.zero_add] at hc
  rw [hc]
  congr 2
  rw [getElem!_pos _ j (by simp; omega), getElem!_pos _ (j + 1) hj]
  simp [List.getElem_append]
  rw [dif_pos (by omega)]
end Go.Proofs.Ybulkxhs
