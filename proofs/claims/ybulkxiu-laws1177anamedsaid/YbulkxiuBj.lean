import Derived.Test.YbulkxiuBi
import Derived.Test.YbulkxiuNk
namespace Go.Proofs.Ybulkxiu
open Go.RowKit
set_option maxRecDepth 100000

/-- A step, as the law is given it. -/
structure StepD where
  kind : Nat
  typ : Nat
  key : Nat
  cl : Nat
  ct : Nat → Nat
/-- The steps lie in memory: len of them from ⟨sb, so⟩ on. -/
def StepMem (w : World) (sb so len : Nat) (D : Nat → StepD) : Prop := ∀ j, j < len →
  w.cell? ⟨sb, so + j * 4, none⟩ = some (.int .u8 ((D j).kind : Nat)) ∧ w.cell? ⟨sb, so + j * 4 + 1, none⟩ = some (.int .u8 ((D j).typ : Nat)) ∧ w.cell? ⟨sb, so + j * 4 + 2, none⟩ = some (.int .u8 ((D j).key : Nat)) ∧
  (D j).kind < 256 ∧ (D j).typ < 256 ∧ (D j).key < 256 ∧ (D j).cl ≤ 9223372036854775807 ∧
  ∃ ca cc, w.cell? ⟨sb, so + j * 4 + 3, none⟩ = some (.slice ca (D j).cl cc) ∧ ∀ t, t < (D j).cl → t < 16 → ∃ b o, ca = some ⟨b, o, none⟩ ∧ w.cell? ⟨b, o + t, none⟩ = some (.int .u8 ((D j).ct t : Nat)) ∧ (D j).ct t < 256
/-- A step's cites. -/
def citeAt (i c : Nat) : Option Nat := if i = 0 ∨ c = 255 then none else some (c % i)
def citeL (i : Nat) (d : StepD) : Nat → List (Option Nat) := fun m => (List.range m).map fun t => citeAt i (d.ct t)
theorem citeL_succ (i : Nat) (d : StepD) (m : Nat) : citeL i d (m + 1) = citeL i d m ++ [citeAt i (d.ct m)] := by unfold citeL; rw [List.range_succ, List.map_append]; rfl
theorem citeL_len (i : Nat) (d : StepD) (m : Nat) : (citeL i d m).length = m := by unfold citeL; simp
def csOf (i : Nat) (d : StepD) : List (Option Nat) := citeL i d (min d.cl 16)
theorem citeL_lt (i : Nat) (d : StepD) (m : Nat) : ∀ t j, (citeL i d m).getD t none = some j → j < i := fun t j h => by
  unfold citeL at h
  by_cases ht : t < m
  · simp [List.getD, ht, citeAt] at h
    obtain ⟨h1, h2⟩ := h
    rw [← h2]
    exact Nat.mod_lt _ (by omega)
  · simp [List.getD, ht] at h
def csI (o : Option Nat) : Int := match o with
  | some j => j
  | none => -1
def csC (cs : List (Option Nat)) (j : Nat) : Value := .int .i64 (csI (cs.getD j none))
def ctC (cs : List (Option Nat)) (j : Nat) : Value := .string (citeS (cs.getD j none))
theorem csC_old (cs : List (Option Nat)) (x : Option Nat) : ∀ j, j < cs.length * 1 → csC (cs ++ [x]) j = csC cs j := fun j hj => by
  unfold csC; simp [List.getD, List.getElem?_append_left (show j < cs.length by omega)]
theorem csC_new (cs : List (Option Nat)) (x : Option Nat) : ∀ j, j < 1 → [Value.int .i64 (csI x)][j]? = some (csC (cs ++ [x]) (cs.length * 1 + j)) := fun j hj => by
  obtain rfl : j = 0 := by omega
  unfold csC; simp
theorem ctC_old (cs : List (Option Nat)) (x : Option Nat) : ∀ j, j < cs.length * 1 → ctC (cs ++ [x]) j = ctC cs j := fun j hj => by
  unfold ctC; simp [List.getD, List.getElem?_append_left (show j < cs.length by omega)]
theorem ctC_new (cs : List (Option Nat)) (x : Option Nat) : ∀ j, j < 1 → [Value.string (citeS x)][j]? = some (ctC (cs ++ [x]) (cs.length * 1 + j)) := fun j hj => by
  obtain rfl : j = 0 := by omega
  unfold ctC; simp

/-- What stands fast while the builder runs. -/
structure Fx where
  B0 : Nat
  gB : Nat
  mB : Nat
  xB : Nat
  mb : Nat
  sE : Nat
  nO : Nat
  tyB : Nat
  kyB : Nat
  len : Nat
/-- What turns. -/
structure GS where
  tg : Nat → Nat
  nv : Value
  mp : Option Nat
  G : PG
  cv : Nat → Value
  cb : Nat → List Nat
  cs : Nat → List (Option Nat)
  nm : Nat → List Nat
  V : MVs
  cvm : Nat → Value
  ovm : Nat → Value
  own : Nat → List Nat
  nmx : Nat
  recsV : Value
  idbV : Value
  evp : Nat → Option Nat
  nd : Nat → Nat
structure BI (F : Fx) (w0 : World) (s : GS) (i : Nat) (w : World) : Prop where
  g : GI F.B0 w s.tg F.gB s.nv s.mp s.G s.cv s.cb s.cs i s.nm
  m : MI F.B0 w s.tg F.mB s.V s.G s.cvm s.cb s.ovm s.own
  x : XI F.B0 w s.tg F.xB F.mb s.nmx i s.recsV s.idbV s.evp
  l : LI F.B0 w s.tg F.sE F.nO F.tyB F.kyB F.len i s.evp s.nd
  num : NumT w s.tg i s.evp s.nd s.G
  nde : ∀ j, j < i → s.nd j ≠ 0 → (s.evp j).isSome = true
  own : ∀ k, k < s.G.n → s.own k = ownL s.evp s.nd (s.G.par k) (s.cs k)
  cb16 : ∀ k, (s.cb k).length ≤ 16 * i
  cbf : ∀ k, s.G.n ≤ k → s.cb k = []
  ni : s.G.n ≤ i
  il : i ≤ F.len
  len : F.len ≤ 512
  bel : RowKit.Below F.B0 w0 w
  sz : F.B0 ≤ w.heap.size
  low : ∀ b, b < F.B0 → s.tg b = 0
  nk : NKs s.G s.own s.nm
/-- Steps that touch nothing of the builder's. -/
theorem BI.fr {S : Nat → Prop} {F : Fx} {w0 : World} {s : GS} {i : Nat} {w w' : World} {tg' : Nat → Nat} (h : BI F w0 s i w) (f : Fr S w s.tg w' tg') (hS : ∀ T, S T → T = 29 ∨ T = 33 ∨ T = 37) : BI F w0 { s with tg := tg' } i w' := by
  have h0 : ¬ S 0 := fun q => by have := hS _ q; omega
  refine ⟨h.g.fr f (fun T q => by have := hS _ q; exact ⟨by omega, by omega, by omega, by omega, fun k _ => by omega⟩), h.m.fr f (fun T q => by have := hS _ q; omega), h.x.fr f (fun T q => by have := hS _ q; omega), h.l.fr f (fun T q => by have := hS _ q; omega), h.num.fr f h0, h.nde, h.own, h.cb16, h.cbf, h.ni, h.il, h.len, h.bel.trans ⟨f.os, f.tape, f.output, f.size, fun b hb => f.block b (Nat.lt_of_lt_of_le hb h.sz) (by rw [h.low b hb]; exact h0)⟩, Nat.le_trans h.sz f.size, fun b hb => (f.tag b (Nat.lt_of_lt_of_le hb h.sz)).trans (h.low b hb), h.nk⟩
theorem BI.step {F : Fx} {w0 : World} {s : GS} {i : Nat} {w : World} (h : BI F w0 s i w) {a : Addr} {v : Value} (hc : w0.cell? a = some v) (hB : F.B0 = w0.heap.size) : w.cell? a = some v :=
  (h.bel.cell (by rw [hB]; exact World.block_lt_of_cell? w0 a hc)).trans hc
end Go.Proofs.Ybulkxiu
