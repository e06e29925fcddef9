import Derived.Test.YbulkxiuNr
namespace Go.Proofs.Ybulkxiu
open Go.RowKit
set_option maxRecDepth 100000
/-- The state behind a step that made a node. -/
def nextS (s : GS) (i : Nat) (cs : List (Option Nat)) (e : Nat) (ty ky : Bool) (p : Nat) (cvm : Nat → Value) (v28 : Value) (V : MVs) (tg1 : Nat → Nat) (nv' : Value) (mp' : Option Nat) (cv' : Nat → Value) (nm' : Nat → List Nat) : GS :=
  { s with tg := tg1, nv := nv', mp := mp', G := addG s.G e ty ky p, cv := cv', cb := cbL (s.G.n + 1) s.cb (ndL s cs), cs := upd s.cs s.G.n cs, nm := nm', V := V, cvm := upd cvm s.G.n (.slice none 0 0), ovm := upd s.ovm s.G.n v28, own := upd s.own s.G.n (ownL s.evp s.nd p cs), evp := upd s.evp i (some e), nd := upd s.nd i (s.G.n + 1) }
section
variable {F : Fx} {w0 : World} {s : GS} {i : Nat} {cs : List (Option Nat)} {e : Nat} {ty ky : Bool} {s16 : Value} {cvm : Nat → Value} {v28 : Value} {V : MVs} {p : Nat} {tg tg1 : Nat → Nat} {W w1 : World} {nv' : Value} {mp' : Option Nat} {cv' : Nat → Value} {nm' : Nat → List Nat}
theorem LI.put (l : LI F.B0 W tg F.sE F.nO F.tyB F.kyB F.len i s.evp s.nd) (hi : i < F.len) (x : Nat) (hx : x ≠ 0) : LI F.B0 ((W.setCell ⟨F.nO, i, none⟩ (.int .u32 (x : Int))).setCell ⟨F.sE, i, none⟩ (.pointer (some ⟨e, 0, none⟩))) tg F.sE F.nO F.tyB F.kyB F.len (i + 1) (upd s.evp i (some e)) (upd s.nd i x) ∧
    Fr (fun T => T = 25 ∨ T = 21) W tg ((W.setCell ⟨F.nO, i, none⟩ (.int .u32 (x : Int))).setCell ⟨F.sE, i, none⟩ (.pointer (some ⟨e, 0, none⟩))) tg := by
  have t1 : tg F.nO = 25 := by obtain ⟨_, _, _, h⟩ := l.no; exact h F.nO rfl
  have t2 : tg F.sE = 21 := by obtain ⟨_, _, _, h⟩ := l.se; exact h F.sE rfl
  have f1 : Fr (fun T => T = 25) W tg (W.setCell ⟨F.nO, i, none⟩ (.int .u32 (x : Int))) tg := Fr.of_set _ _ _ _ t1
  have f2 : Fr (fun T => T = 21) (W.setCell ⟨F.nO, i, none⟩ (.int .u32 (x : Int))) tg ((W.setCell ⟨F.nO, i, none⟩ (.int .u32 (x : Int))).setCell ⟨F.sE, i, none⟩ (.pointer (some ⟨e, 0, none⟩))) tg := Fr.of_set _ _ _ _ t2
  have f : Fr (fun T => T = 25 ∨ T = 21) W tg ((W.setCell ⟨F.nO, i, none⟩ (.int .u32 (x : Int))).setCell ⟨F.sE, i, none⟩ (.pointer (some ⟨e, 0, none⟩))) tg := (f1.mono fun _ q => Or.inl q).trans (f2.mono fun _ q => Or.inr q)
  refine ⟨⟨?_, ?_, f.cell l.t0 (by show ¬ (tg F.tyB = 25 ∨ tg F.tyB = 21); rw [l.tt]; omega), f.cell l.t1 (by show ¬ (tg F.tyB = 25 ∨ tg F.tyB = 21); rw [l.tt]; omega), f.cell l.k0 (by show ¬ (tg F.kyB = 25 ∨ tg F.kyB = 21); rw [l.tk]; omega), f.cell l.k1 (by show ¬ (tg F.kyB = 25 ∨ tg F.kyB = 21); rw [l.tk]; omega), l.tt, l.tk⟩, f⟩
  · refine (l.se.fr f1 (by omega)).set i _ (by omega) _ fun j hj => ?_
    unfold seC
    by_cases q : j = i
    · subst q; rw [if_pos rfl, if_pos ⟨by omega, by rw [upd_same]; exact hx⟩, upd_same]; rfl
    · rw [if_neg q, upd_other _ _ _ q, upd_other _ _ _ q]
      by_cases z : j < i ∧ s.nd j ≠ 0
      · rw [if_pos z, if_pos ⟨by omega, z.2⟩]
      · rw [if_neg z, if_neg (by omega)]
  · refine RowF.fr ?_ f2 (by omega)
    refine l.no.set i _ (by omega) _ fun j hj => ?_
    unfold noC
    by_cases q : j = i
    · subst q; rw [if_pos rfl, if_pos (by omega), upd_same]
    · rw [if_neg q, upd_other _ _ _ q]
      by_cases z : j < i
      · rw [if_pos z, if_pos (by omega)]
      · rw [if_neg z, if_neg (by omega)]
theorem node_end (H : NM F w0 s i cs e ty ky s16 cvm (cbL (s.G.n + 1) s.cb (ndL s cs)) v28 (ownL s.evp s.nd p cs) V (s.G.n + 1) (s.G.n + 1) (s.G.n + 1) (s.G.n + 1) (s.G.n + 1) (evC (addG s.G e ty ky p)) (parC (addG s.G e ty ky p)) (depC (addG s.G e ty ky p)) (upd s.ovm s.G.n v28) (upd cvm s.G.n (.slice none 0 0)) tg W) (Q : NQ F s i) (hi : i < F.len)
    (g' : GI F.B0 w1 tg1 F.gB nv' mp' (addG s.G e ty ky p) cv' (cbL (s.G.n + 1) s.cb (ndL s cs)) (upd s.cs s.G.n cs) i nm') (f' : Fr (fun T => T % 4 = 2) ((W.setCell ⟨F.nO, i, none⟩ (.int .u32 ((s.G.n + 1 : Nat) : Int))).setCell ⟨F.sE, i, none⟩ (.pointer (some ⟨e, 0, none⟩))) tg w1 tg1)
    (nk' : NKs (addG s.G e ty ky p) (upd s.own s.G.n (ownL s.evp s.nd p cs)) nm') :
    DR F w0 (nextS s i cs e ty ky p cvm v28 V tg1 nv' mp' cv' nm') (i + 1) w1 ∧ XI F.B0 w1 tg1 F.xB F.mb s.nmx i s.recsV s.idbV (upd s.evp i (some e)) := by
  obtain ⟨l1, f1⟩ := H.n.l.put (e := e) hi (s.G.n + 1) (by omega)
  have f : Fr (fun T => T = 25 ∨ T = 21 ∨ T % 4 = 2) W tg w1 tg1 := (f1.mono fun _ q => by omega).trans (f'.mono fun _ q => by omega)
  have e1 : ∀ j, j < i → s.evp j = upd s.evp i (some e) j := fun j hj => (upd_other _ _ _ (by omega)).symm
  have e2 : ∀ j, j < i → s.nd j = upd s.nd i (s.G.n + 1) j := fun j hj => (upd_other _ _ _ (by omega)).symm
  have h7 : ∀ t j, cs.getD t none = some j → j < i := by obtain ⟨_, _, _, _, _, _, _, _, _, h, _⟩ := H.n.ev; exact h
  have h6 : cs.length ≤ 16 := by obtain ⟨_, _, _, _, _, _, _, _, h, _, _⟩ := H.n.ev; exact h
  have hle : ∀ c ∈ ndL s cs, c ≤ s.G.n := H.n.num.le h7
  have hfar : ∀ k, s.G.n ≤ k → cbL (s.G.n + 1) s.cb (ndL s cs) k = [] := fun k hk => by unfold cbL; rw [cbFold_far _ s.G.n _ _ hle k hk]; exact Q.cbf k hk
  refine ⟨⟨g'.mono (by omega), ?_, l1.fr f' (fun T q => by omega), fun j hj e' he => ?_, fun j hj hn => ?_, fun k hk => ?_, fun k => ?_, fun k hk => hfar k (by have : s.G.n + 1 ≤ k := hk; omega), by have := Q.ni; show s.G.n + 1 ≤ _; omega, hi, Q.len, ?_, ?_, fun b hb => ?_, nk'⟩, (H.n.x.fr f (fun T q => by omega)).congr e1⟩
  · have m := H.m
    obtain ⟨a, a1, a2⟩ := m.blk
    refine ⟨⟨a, f.heap a1 (by rw [m.tm]; omega), a2⟩, (f.tagOf a1).trans m.tm, m.bm, m.evs.fr f (by omega), m.par.fr f (by omega), m.dep.fr f (by omega), m.ownr.fr f (by omega), m.cbr.fr f (by omega), fun k hk => ?_, fun k hk => ?_⟩
    · show RowL F.B0 w1 tg1 (43 + 8 * k) (upd cvm s.G.n (.slice none 0 0) k) (cbL (s.G.n + 1) s.cb (ndL s cs) k)
      by_cases q : k = s.G.n
      · subst q
        rw [upd_same, hfar _ (Nat.le_refl _)]
        exact RowF.nil _ _ _ _ _ _ _
      · rw [upd_other _ _ _ q]
        exact (H.c k (by have : k < s.G.n + 1 := hk; omega)).fr f (by omega)
    · show ReadsU w1 tg1 (upd s.ovm s.G.n v28 k) (upd s.own s.G.n (ownL s.evp s.nd p cs) k)
      by_cases q : k = s.G.n
      · subst q
        rw [upd_same, upd_same]
        exact H.v.fr f (by omega)
      · rw [upd_other _ _ _ q, upd_other _ _ _ q]
        exact (H.o k (by have : k < s.G.n + 1 := hk; omega)).fr f (by omega)
  · have he0 : upd s.evp i (some e) j = some e' := he
    show (upd s.nd i (s.G.n + 1) j = 0 ∧ tg1 e' = 0 ∧ _) ∨ (upd s.nd i (s.G.n + 1) j ≠ 0 ∧ upd s.nd i (s.G.n + 1) j ≤ s.G.n + 1 ∧ upd s.G.ev s.G.n e (upd s.nd i (s.G.n + 1) j - 1) = e')
    by_cases q : j = i
    · subst q
      rw [upd_same] at he0 ⊢
      right
      refine ⟨by omega, Nat.le_refl _, ?_⟩
      rw [Nat.add_sub_cancel, upd_same]
      exact Option.some.inj he0
    · have hj' : j < i := by omega
      rw [← e1 j hj'] at he0
      rw [← e2 j hj']
      rcases (H.n.num.fr f (by omega)) j hj' e' he0 with h | ⟨h1, h2, h3⟩
      · exact Or.inl h
      · right
        refine ⟨h1, by omega, ?_⟩
        rw [upd_other _ _ _ (by omega)]
        exact h3
  · show (upd s.evp i (some e) j).isSome = true
    by_cases q : j = i
    · subst q; rw [upd_same]; rfl
    · rw [upd_other _ _ _ q]
      have h2 : upd s.nd i (s.G.n + 1) j ≠ 0 := hn
      rw [upd_other _ _ _ q] at h2
      exact Q.nde j (by omega) h2
  · show upd s.own s.G.n (ownL s.evp s.nd p cs) k = ownL (upd s.evp i (some e)) (upd s.nd i (s.G.n + 1)) (upd s.G.par s.G.n p k) (upd s.cs s.G.n cs k)
    by_cases q : k = s.G.n
    · subst q
      rw [upd_same, upd_same, upd_same]
      exact ownL_congr e1 e2 _ _ h7
    · rw [upd_other _ _ _ q, upd_other _ _ _ q, upd_other _ _ _ q]
      have hk' : k < s.G.n := by have : k < s.G.n + 1 := hk; omega
      obtain ⟨_, _, _, _, _, _, _, _, _, h7k, _⟩ := H.n.g.evs k hk'
      rw [← ownL_congr e1 e2 _ _ h7k]
      exact Q.own k hk'
  · have h := cbL_len (s.G.n + 1) (ndL s cs) s.cb (16 * i) Q.cb16 k
    rw [ndL_len] at h
    show (cbL (s.G.n + 1) s.cb (ndL s cs) k).length ≤ 16 * (i + 1)
    omega
  · exact H.n.bel.trans ⟨f.os, f.tape, f.output, f.size, fun b hb => f.block b (Nat.lt_of_lt_of_le hb H.n.sz) (by rw [H.n.low b hb]; omega)⟩
  · exact Nat.le_trans H.n.sz f.size
  · exact (f.tag b (Nat.lt_of_lt_of_le hb H.n.sz)).trans (H.n.low b hb)
end
end Go.Proofs.Ybulkxiu
