import Derived.Test.YbulkxiuMb
namespace Go.Proofs.Ybulkxiu
open Go.RowKit
set_option maxRecDepth 100000
/-- A step that makes a node, while it runs: all but the model. -/
structure NR (F : Fx) (w0 : World) (s : GS) (i : Nat) (cs : List (Option Nat)) (e : Nat) (ty ky : Bool) (tgx : Nat → Nat) (s16 : Value) (wx : World) : Prop where
  g : GI F.B0 wx tgx F.gB s.nv s.mp s.G s.cv s.cb s.cs i s.nm
  x : XI F.B0 wx tgx F.xB F.mb s.nmx i s.recsV s.idbV s.evp
  l : LI F.B0 wx tgx F.sE F.nO F.tyB F.kyB F.len i s.evp s.nd
  num : NumT wx tgx i s.evp s.nd s.G
  r16 : RowF F.B0 wx tgx 29 3 1 s16 cs.length (csC cs)
  ev : EvMem wx tgx e 0 ty ky cs i
  eb : F.B0 ≤ e
  et : tgx e = 46 + 8 * s.G.n
  bel : RowKit.Below F.B0 w0 wx
  sz : F.B0 ≤ wx.heap.size
  low : ∀ b, b < F.B0 → tgx b = 0
/-- What does not hang on the world. -/
structure NQ (F : Fx) (s : GS) (i : Nat) : Prop where
  nde : ∀ j, j < i → s.nd j ≠ 0 → (s.evp j).isSome = true
  own : ∀ k, k < s.G.n → s.own k = ownL s.evp s.nd (s.G.par k) (s.cs k)
  cb16 : ∀ k, (s.cb k).length ≤ 16 * i
  cbf : ∀ k, s.G.n ≤ k → s.cb k = []
  ni : s.G.n ≤ i
  len : F.len ≤ 512
  nk : NKs s.G s.own s.nm
theorem ES.nr {F : Fx} {w0 : World} {s : GS} {i : Nat} {cs : List (Option Nat)} {e : Nat} {ty ky : Bool} {tgx : Nat → Nat} {s16 : Value} {wx : World} (h : ES F w0 s i cs (some e) true ty ky tgx s16 wx) : NR F w0 s i cs e ty ky tgx s16 wx ∧ MI F.B0 wx tgx F.mB s.V s.G s.cvm s.cb s.ovm s.own ∧ NQ F s i := by
  obtain ⟨e1, e2, e3⟩ := h.e e rfl
  have b := h.b
  exact ⟨⟨b.g, b.x, b.l, b.num, h.r16, e1, e2, e3, b.bel, b.sz, b.low⟩, b.m, ⟨b.nde, b.own, b.cb16, b.cbf, b.ni, b.len, b.nk⟩⟩
theorem NR.fr {S : Nat → Prop} {F : Fx} {w0 : World} {s : GS} {i : Nat} {cs : List (Option Nat)} {e : Nat} {ty ky : Bool} {tgx tg' : Nat → Nat} {s16 : Value} {wx w' : World} (h : NR F w0 s i cs e ty ky tgx s16 wx) (f : Fr S wx tgx w' tg') (hS : ∀ T, S T → T % 4 = 3 ∨ T = 37) : NR F w0 s i cs e ty ky tg' s16 w' := by
  have h0 : ¬ S 0 := fun q => by have := hS _ q; omega
  refine ⟨h.g.fr f (fun T q => by have := hS _ q; exact ⟨by omega, by omega, by omega, by omega, fun k _ => by omega⟩), h.x.fr f (fun T q => by have := hS _ q; omega), h.l.fr f (fun T q => by have := hS _ q; omega), h.num.fr f h0, h.r16.fr f (fun q => by have := hS _ q; omega), h.ev.fr f h0 (by rw [h.et]; exact fun q => by have := hS _ q; omega), h.eb, (f.tag _ h.ev.lt).trans h.et, h.bel.trans ⟨f.os, f.tape, f.output, f.size, fun b hb => f.block b (Nat.lt_of_lt_of_le hb h.sz) (by rw [h.low b hb]; exact h0)⟩, Nat.le_trans h.sz f.size, fun b hb => (f.tag b (Nat.lt_of_lt_of_le hb h.sz)).trans (h.low b hb)⟩
theorem NR.rt {F : Fx} {w0 : World} {s : GS} {i : Nat} {cs : List (Option Nat)} {e : Nat} {ty ky : Bool} {tgx tg' : Nat → Nat} {s16 : Value} {wx : World} (h : NR F w0 s i cs e ty ky tgx s16 wx) (r : Rt tgx tg') : NR F w0 s i cs e ty ky tg' s16 wx :=
  ⟨h.g.rt r, h.x.rt r, h.l.rt r, h.num.rt r, h.r16.rt r (by omega), h.ev.rt r, h.eb, (r _ (by rw [h.et]; omega)).trans h.et, h.bel, h.sz, fun b hb => (r b (by rw [h.low b hb]; omega)).trans (h.low b hb)⟩
/-- The cites' nodes. -/
def ndL (s : GS) (cs : List (Option Nat)) : List Nat := cs.map (nodeAt s.evp s.nd)
theorem ndL_len (s : GS) (cs : List (Option Nat)) : (ndL s cs).length = cs.length := by unfold ndL; simp
theorem ndL_take (s : GS) (cs : List (Option Nat)) (t : Nat) (ht : t < cs.length) : (ndL s cs).take (t + 1) = (ndL s cs).take t ++ [nodeAt s.evp s.nd (cs.getD t none)] := by
  rw [List.take_succ_eq_append_getElem (by rw [ndL_len]; exact ht)]
  simp [ndL, List.getD, ht]
/-- A cite's step, and what lies of it in the builder's rows. -/
theorem NR.cell {F : Fx} {w0 : World} {s : GS} {i : Nat} {cs : List (Option Nat)} {e : Nat} {ty ky : Bool} {tgx : Nat → Nat} {s16 : Value} {wx : World} (h : NR F w0 s i cs e ty ky tgx s16 wx) {t : Nat} (ht : t < cs.length) :
    ∃ rb rc, s16 = .slice (some ⟨rb, 0, none⟩) cs.length rc ∧ cs.length ≤ rc ∧ wx.cell? ⟨rb, t, none⟩ = some (.int .i64 (csI (cs.getD t none))) := by
  obtain ⟨a, c, h1, h2, h3⟩ := h.r16.form
  obtain ⟨g, rfl, _, _, _, h4, _⟩ := h3 (by omega)
  exact ⟨g, c, h1, h2, h4 t (by omega)⟩
theorem NR.step {F : Fx} {w0 : World} {s : GS} {i : Nat} {cs : List (Option Nat)} {e : Nat} {ty ky : Bool} {tgx : Nat → Nat} {s16 : Value} {wx : World} (h : NR F w0 s i cs e ty ky tgx s16 wx) (hi : i < F.len) {j : Nat} (hj : j < i) :
    wx.cell? ⟨F.nO, j, none⟩ = some (.int .u32 (s.nd j)) ∧ (s.nd j ≠ 0 → (s.evp j).isSome = true → ∃ b, s.nd j ≤ s.G.n ∧ wx.cell? ⟨F.sE, j, none⟩ = some (.pointer (some ⟨b, 0, none⟩)) ∧ wx.cell? ⟨b, 1, none⟩ = some (.string (tyS (s.G.ty (s.nd j - 1)))) ∧ wx.cell? ⟨b, 4, none⟩ = some (.string (kyS (s.G.ky (s.nd j - 1))))) := by
  refine ⟨?_, fun hn hs => ?_⟩
  · obtain ⟨a, c, h1, _, h3⟩ := h.l.no.form
    obtain ⟨g, rfl, _, _, _, h4, _⟩ := h3 (by omega)
    simp only [Value.slice.injEq, Option.some.injEq, Addr.mk.injEq, and_true, true_and] at h1
    obtain ⟨rfl, rfl⟩ := h1
    rw [h4 j (by omega)]
    unfold noC; rw [if_pos hj]
  · obtain ⟨b, hb⟩ := Option.isSome_iff_exists.1 hs
    rcases h.num j hj b hb with ⟨q, _⟩ | ⟨_, q2, q3⟩
    · exact absurd q hn
    · obtain ⟨ea, _, _, e1, e2, e3, _⟩ := h.g.evs (s.nd j - 1) (by omega)
      rw [q3] at e1
      refine ⟨b, q2, ?_, EvMem.cellAt e1 e2, EvMem.cellAt e1 e3⟩
      obtain ⟨a, c, h1, _, h3⟩ := h.l.se.form
      obtain ⟨g, rfl, _, _, _, h4, _⟩ := h3 (by omega)
      simp only [Value.slice.injEq, Option.some.injEq, Addr.mk.injEq, and_true, true_and] at h1
      obtain ⟨rfl, rfl⟩ := h1
      rw [h4 j (by omega)]
      unfold seC; rw [if_pos ⟨hj, hn⟩, hb]; rfl
/-- The same, with the model's rows each of its own length. -/
structure NM (F : Fx) (w0 : World) (s : GS) (i : Nat) (cs : List (Option Nat)) (e : Nat) (ty ky : Bool) (s16 : Value) (cvm : Nat → Value) (cbm : Nat → List Nat) (v28 : Value) (l : List Nat) (V : MVs) (nE nP nD nO nC : Nat) (fE fP fD fO fC : Nat → Value) (tgx : Nat → Nat) (wx : World) : Prop where
  n : NR F w0 s i cs e ty ky tgx s16 wx
  m : MB F.B0 wx tgx F.mB V nE nP nD nO nC fE fP fD fO fC
  c : ∀ k, k < s.G.n → RowL F.B0 wx tgx (43 + 8 * k) (cvm k) (cbm k)
  o : ∀ k, k < s.G.n → ReadsU wx tgx (s.ovm k) (s.own k)
  v : ReadsU wx tgx v28 l
section
variable {F : Fx} {w0 : World} {s : GS} {i : Nat} {cs : List (Option Nat)} {e : Nat} {ty ky : Bool} {s16 : Value} {cvm : Nat → Value} {cbm : Nat → List Nat} {v28 : Value} {l : List Nat} {V V' : MVs} {nE nP nD nO nC nE' nP' nD' nO' nC' : Nat} {fE fP fD fO fC fE' fP' fD' fO' fC' : Nat → Value} {tgx tg' : Nat → Nat} {wx w' : World}
theorem NM.of (h : NM F w0 s i cs e ty ky s16 cvm cbm v28 l V nE nP nD nO nC fE fP fD fO fC tgx wx) (m : MB F.B0 w' tg' F.mB V' nE' nP' nD' nO' nC' fE' fP' fD' fO' fC' ∧ Fr (fun T => T % 4 = 3 ∧ T < 40) wx tgx w' tg') : NM F w0 s i cs e ty ky s16 cvm cbm v28 l V' nE' nP' nD' nO' nC' fE' fP' fD' fO' fC' tg' w' :=
  ⟨h.n.fr m.2 (fun T q => Or.inl q.1), m.1, fun k hk => (h.c k hk).fr m.2 (by omega), fun k hk => (h.o k hk).fr m.2 (by omega), h.v.fr m.2 (by omega)⟩
theorem MB.cells {B0 : Nat} {w : World} {tg : Nat → Nat} {mB : Nat} (h : MB B0 w tg mB V nE nP nD nO nC fE fP fD fO fC) : w.cell? ⟨mB, 0, none⟩ = some V.eV ∧ w.cell? ⟨mB, 1, none⟩ = some V.pV ∧ w.cell? ⟨mB, 2, none⟩ = some V.dV ∧ w.cell? ⟨mB, 3, none⟩ = some V.oV ∧ w.cell? ⟨mB, 4, none⟩ = some V.cV := by
  obtain ⟨a, a1, a2, a3, a4, a5, a6, a7⟩ := h.blk
  refine ⟨?_, ?_, ?_, ?_, ?_⟩ <;> rw [cell_of_row w mB _ a 44 (0, 0) a1] <;> assumption
theorem MB.keep {B0 : Nat} {w w2 : World} {tg tg2 : Nat → Nat} {mB T0 : Nat} (h : MB B0 w tg mB V nE nP nD nO nC fE fP fD fO fC) (f : Fr (fun T => T = T0) w tg w2 tg2) (hT : T0 ≠ 3) (j : Nat) (u : Value) (hu : w.cell? ⟨mB, j, none⟩ = some u) : w2.cell? ⟨mB, j, none⟩ = some u ∧ w2.frozen? ⟨mB, j, none⟩ = false := by
  obtain ⟨a, a1, _⟩ := h.blk
  have a2 := f.heap a1 (by rw [h.tm]; omega)
  exact ⟨f.cell hu (by show ¬ tg mB = T0; rw [h.tm]; omega), frozen_of_row w2 mB j a 44 a2⟩
/-- From the loops' end to the five appends: the own row is never written again. -/
theorem NR.nm (h : NR F w0 s i cs e ty ky tgx s16 wx) (m : MI F.B0 wx tgx F.mB s.V s.G cvm cbm s.ovm s.own) (r : RowL F.B0 wx tgx 37 v28 l) : ∃ tg2, NM F w0 s i cs e ty ky s16 cvm cbm v28 l s.V s.G.n s.G.n s.G.n s.G.n s.G.n (evC s.G) (parC s.G) (depC s.G) s.ovm cvm tg2 wx := by
  have rt : Rt tgx (fun b => if tgx b = 37 then 0 else tgx b) := fun b hb => if_neg hb.2
  have m2 := m.rt rt
  refine ⟨_, h.rt rt, ⟨m2.blk, m2.tm, m2.bm, m2.evs, m2.par, m2.dep, m2.ownr, m2.cbr⟩, m2.cited, m2.owns, ?_⟩
  obtain ⟨a, c, h1, h2, h3⟩ := r.form
  rcases Nat.eq_zero_or_pos l.length with hz | hz
  · obtain ⟨xs, r1, _, r3⟩ := r
    have hl : l = [] := List.length_eq_zero_iff.1 hz
    subst hl
    rcases r1.2 with ⟨q, _⟩ | ⟨g, cap, cur, q, hb, hg, _⟩
    · exact Or.inl ⟨q, rfl⟩
    · refine Or.inr ⟨g, cap, q, Nat.zero_le _, ?_, (Array.getElem?_eq_some_iff.1 hg).1, fun j hj => absurd hj (by simp)⟩
      have : tgx g = 37 := r3 g (by rw [q]; rfl)
      show (if tgx g = 37 then 0 else tgx g) = 0
      rw [if_pos this]
  · obtain ⟨g, rfl, _, hg, ht, hc, _⟩ := h3 hz
    refine Or.inr ⟨g, c, h1, h2, ?_, hg, fun j hj => hc j (by omega)⟩
    show (if tgx g = 37 then 0 else tgx g) = 0
    rw [if_pos ht]
end
end Go.Proofs.Ybulkxiu
