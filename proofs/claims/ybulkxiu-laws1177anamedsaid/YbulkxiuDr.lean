import Derived.Test.YbulkxiuStr
namespace Go.Proofs.Ybulkxiu
open Go.RowKit
set_option maxRecDepth 100000
/-- The builder's invariant but for the index. -/
structure DR (F : Fx) (w0 : World) (s : GS) (i : Nat) (w : World) : Prop where
  g : GI F.B0 w s.tg F.gB s.nv s.mp s.G s.cv s.cb s.cs i s.nm
  m : MI F.B0 w s.tg F.mB s.V s.G s.cvm s.cb s.ovm s.own
  l : LI F.B0 w s.tg F.sE F.nO F.tyB F.kyB F.len i s.evp s.nd
  num : NumT w s.tg i s.evp s.nd s.G
  nde : ∀ j, j < i → s.nd j ≠ 0 → (s.evp j).isSome = true
  own : ∀ k, k < s.G.n → s.own k = ownL s.evp s.nd (s.G.par k) (s.cs k)
  cb16 : ∀ k, (s.cb k).length ≤ 16 * i
  cbf : ∀ k, s.G.n ≤ k → s.cb k = []
  ni : s.G.n ≤ i
  il : i ≤ F.len
  len : F.len ≤ 512
  bel : RowKit.Below F.B0 w0 w
  sz : F.B0 ≤ w.heap.size
  low : ∀ b, b < F.B0 → s.tg b = 0
  nk : NKs s.G s.own s.nm
theorem BI.dr {F : Fx} {w0 : World} {s : GS} {i : Nat} {w : World} (h : BI F w0 s i w) : DR F w0 s i w := ⟨h.g, h.m, h.l, h.num, h.nde, h.own, h.cb16, h.cbf, h.ni, h.il, h.len, h.bel, h.sz, h.low, h.nk⟩
theorem DR.bi {F : Fx} {w0 : World} {s : GS} {i : Nat} {w : World} (h : DR F w0 s i w) (x : XI F.B0 w s.tg F.xB F.mb s.nmx i s.recsV s.idbV s.evp) : BI F w0 s i w := ⟨h.g, h.m, x, h.l, h.num, h.nde, h.own, h.cb16, h.cbf, h.ni, h.il, h.len, h.bel, h.sz, h.low, h.nk⟩
theorem DR.fr {S : Nat → Prop} {F : Fx} {w0 : World} {s : GS} {i : Nat} {w w' : World} {tg' : Nat → Nat} (h : DR F w0 s i w) (f : Fr S w s.tg w' tg') (hS : ∀ T, S T → T = 1 ∨ T = 5 ∨ T = 9 ∨ T = 13) : DR F w0 { s with tg := tg' } i w' := by
  have h0 : ¬ S 0 := fun q => by have := hS _ q; omega
  exact ⟨h.g.fr f (fun T q => by have := hS _ q; exact ⟨by omega, by omega, by omega, by omega, fun k _ => by omega⟩), h.m.fr f (fun T q => by have := hS _ q; omega), h.l.fr f (fun T q => by have := hS _ q; omega), h.num.fr f h0, h.nde, h.own, h.cb16, h.cbf, h.ni, h.il, h.len, h.bel.trans ⟨f.os, f.tape, f.output, f.size, fun b hb => f.block b (Nat.lt_of_lt_of_le hb h.sz) (by rw [h.low b hb]; exact h0)⟩, Nat.le_trans h.sz f.size, fun b hb => (f.tag b (Nat.lt_of_lt_of_le hb h.sz)).trans (h.low b hb), h.nk⟩
/-- A new record's eleven cells. -/
theorem recC_new (evp : Nat → Option Nat) (i : Nat) : ∀ j, j < 11 → [evV (evp i), Value.int .u64 0, .int .u32 0, .int .u8 0, .int .u8 0, .bool false, .bool false, .int .u32 0, .int .u32 (3 * i : Nat), .int .u32 (3 * i + 3 : Nat), .int .u32 (sameN i)][j]? = some (recC evp (i * 11 + j)) := fun j hj => by
  rw [recC_at evp i j hj]
  have h : j = 0 ∨ j = 1 ∨ j = 2 ∨ j = 3 ∨ j = 4 ∨ j = 5 ∨ j = 6 ∨ j = 7 ∨ j = 8 ∨ j = 9 ∨ j = 10 := by omega
  rcases h with rfl | rfl | rfl | rfl | rfl | rfl | rfl | rfl | rfl | rfl | rfl <;> rfl
/-- The index with one record more: out of its parts. -/
theorem XI.next {B0 : Nat} {w : World} {tg : Nat → Nat} {xB mb nmx i : Nat} {recsV idbV : Value} {evp : Nat → Option Nat} {a : Array Value} {rb cr ib ci : Nat} (hb : w.heap[xB]? = some (.cells a 69 (0, 0))) (ha : a.size = 4) (a0 : a[0]? = some (.func (.func 9) #[] #[])) (a1 : a[1]? = some (.map (some mb))) (a2 : a[2]? = some (.slice (some ⟨rb, 0, none⟩) 1 cr)) (a3 : a[3]? = some (.slice (some ⟨ib, 0, none⟩) 1 ci)) (hr : w.cell? ⟨rb, 0, none⟩ = some recsV) (tr : tg rb = 0) (hi : w.cell? ⟨ib, 0, none⟩ = some idbV) (ti : tg ib = 0)
    (tx : tg xB = 1) (bx : B0 ≤ xB) (recs : RowF B0 w tg 9 85 11 recsV (i + 1) (recC evp)) (idb : RowF B0 w tg 13 5 1 idbV (3 * (i + 1)) idC) (map : MapV w 77 .u64 mb (nmx + 1) (slotF (i + 1))) (tm : tg mb = 5) (bm : B0 ≤ mb) (le : nmx ≤ i) : XI B0 w tg xB mb (nmx + 1) (i + 1) recsV idbV evp :=
  ⟨⟨a, hb, ha, a0, a1, fun _ => ⟨rb, cr, ib, ci, a2, a3, hr, tr, hi, ti⟩⟩, tx, bx, recs, idb, map, tm, bm, by omega⟩
end Go.Proofs.Ybulkxiu
