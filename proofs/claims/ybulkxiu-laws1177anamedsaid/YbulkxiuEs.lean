import Derived.Test.YbulkxiuDr
namespace Go.Proofs.Ybulkxiu
open Go.RowKit
set_option maxRecDepth 100000
theorem nodeAt_congr {evp evp' : Nat → Option Nat} {nd nd' : Nat → Nat} {i : Nat} (h1 : ∀ j, j < i → evp j = evp' j) (h2 : ∀ j, j < i → nd j = nd' j) : ∀ o : Option Nat, (∀ j, o = some j → j < i) → nodeAt evp nd o = nodeAt evp' nd' o := fun o ho => by
  cases o with
  | none => rfl
  | some j =>
    show (if (evp j).isSome = true then nd j else 0) = (if (evp' j).isSome = true then nd' j else 0)
    rw [h1 j (ho j rfl), h2 j (ho j rfl)]
theorem mapAt_congr {evp evp' : Nat → Option Nat} {nd nd' : Nat → Nat} {i : Nat} (h1 : ∀ j, j < i → evp j = evp' j) (h2 : ∀ j, j < i → nd j = nd' j) (cs : List (Option Nat)) (hc : ∀ t j, cs.getD t none = some j → j < i) : cs.map (nodeAt evp nd) = cs.map (nodeAt evp' nd') := by
  refine List.map_congr_left fun o ho => nodeAt_congr h1 h2 o fun j e => ?_
  obtain ⟨t, ht, e2⟩ := List.mem_iff_getElem.1 ho
  exact hc t j (by simp [List.getD, ht, e2, e])
theorem ownL_congr {evp evp' : Nat → Option Nat} {nd nd' : Nat → Nat} {i : Nat} (h1 : ∀ j, j < i → evp j = evp' j) (h2 : ∀ j, j < i → nd j = nd' j) (par : Nat) (cs : List (Option Nat)) (hc : ∀ t j, cs.getD t none = some j → j < i) : ownL evp nd par cs = ownL evp' nd' par cs := by
  unfold ownL; rw [mapAt_congr h1 h2 cs hc]
theorem GI.mono {B0 : Nat} {w : World} {tg : Nat → Nat} {gB : Nat} {nv : Value} {mp : Option Nat} {G : PG} {cv : Nat → Value} {cb : Nat → List Nat} {cs : Nat → List (Option Nat)} {i i' : Nat} {nm : Nat → List Nat} (h : GI B0 w tg gB nv mp G cv cb cs i nm) (hi : i ≤ i') : GI B0 w tg gB nv mp G cv cb cs i' nm :=
  ⟨h.wf, h.gblk, h.gtag, h.gbase, h.nodes, h.cited, fun k hk => (h.evs k hk).mono hi, h.evt, h.evb, h.named, h.nmlt⟩
theorem XI.congr {B0 : Nat} {w : World} {tg : Nat → Nat} {xB mb nmx i : Nat} {recsV idbV : Value} {evp evp' : Nat → Option Nat} (h : XI B0 w tg xB mb nmx i recsV idbV evp) (he : ∀ j, j < i → evp j = evp' j) : XI B0 w tg xB mb nmx i recsV idbV evp' :=
  ⟨h.blk, h.tx, h.bx, h.recs.congr (recC_congr he), h.idb, h.map, h.tm, h.bm, h.le⟩
/-- A step that makes no node. -/
theorem ES.skip {F : Fx} {w0 : World} {s : GS} {i : Nat} {cs : List (Option Nat)} {evo : Option Nat} {ty ky : Bool} {tgx : Nat → Nat} {s16 : Value} {wx : World} (h : ES F w0 s i cs evo false ty ky tgx s16 wx) (hi : i < F.len) :
    DR F w0 { s with tg := tgx, evp := upd s.evp i evo, nd := upd s.nd i 0 } (i + 1) wx ∧ XI F.B0 wx tgx F.xB F.mb s.nmx i s.recsV s.idbV (upd s.evp i evo) := by
  have e1 : ∀ j, j < i → s.evp j = upd s.evp i evo j := fun j hj => (upd_other _ _ _ (by omega)).symm
  have e2 : ∀ j, j < i → s.nd j = upd s.nd i 0 j := fun j hj => (upd_other _ _ _ (by omega)).symm
  have b := h.b
  refine ⟨⟨b.g.mono (by omega), b.m, ⟨b.l.se.congr fun j _ => ?_, b.l.no.congr fun j _ => ?_, b.l.t0, b.l.t1, b.l.k0, b.l.k1, b.l.tt, b.l.tk⟩, fun j hj e he => ?_, fun j hj hn => ?_, fun k hk => ?_, fun k => Nat.le_trans (b.cb16 k) (by omega), b.cbf, by have := b.ni; show s.G.n ≤ _; exact Nat.le_trans this (by omega), hi, b.len, b.bel, b.sz, b.low, b.nk⟩, b.x.congr e1⟩
  · show seC s.evp s.nd i j = seC (upd s.evp i evo) (upd s.nd i 0) (i + 1) j
    unfold seC
    by_cases q : j < i
    · rw [← e1 j q, ← e2 j q]
      by_cases z : s.nd j ≠ 0
      · rw [if_pos ⟨q, z⟩, if_pos ⟨by omega, z⟩]
      · rw [if_neg (fun x => z x.2), if_neg (fun x => z x.2)]
    · by_cases q2 : j = i
      · subst q2; rw [upd_same, if_neg (by omega), if_neg (by omega)]
      · rw [if_neg (by omega), if_neg (by omega)]
  · show noC s.nd i j = noC (upd s.nd i 0) (i + 1) j
    unfold noC
    by_cases q : j < i
    · rw [← e2 j q, if_pos q, if_pos (by omega)]
    · by_cases q2 : j = i
      · subst q2; rw [upd_same, if_neg (by omega), if_pos (by omega)]; rfl
      · rw [if_neg (by omega), if_neg (by omega)]
  · by_cases q : j = i
    · subst q
      have he' : evo = some e := by have := he; simp only [upd_same] at this; exact this
      obtain ⟨⟨a, _, _, h1, _, _, h4, _⟩, _, h3⟩ := h.e e he'
      left
      exact ⟨upd_same _ _ _, h3, EvMem.cellAt h1 h4⟩
    · have hj' : j < i := by omega
      have he' : s.evp j = some e := by rw [e1 j hj']; exact he
      have := b.num j hj' e he'
      show (upd s.nd i 0 j = 0 ∧ _ ∧ _) ∨ (upd s.nd i 0 j ≠ 0 ∧ upd s.nd i 0 j ≤ s.G.n ∧ s.G.ev (upd s.nd i 0 j - 1) = e)
      rw [← e2 j hj']
      exact this
  · by_cases q : j = i
    · subst q
      exact absurd (upd_same _ _ _) hn
    · have hj' : j < i := by omega
      show (upd s.evp i evo j).isSome = true
      rw [← e1 j hj']
      exact b.nde j hj' (by have h2 := hn; show s.nd j ≠ 0; rw [e2 j hj']; exact h2)
  · show s.own k = ownL (upd s.evp i evo) (upd s.nd i 0) (s.G.par k) (s.cs k)
    obtain ⟨_, _, _, _, _, _, _, _, _, h7, _⟩ := b.g.evs k hk
    rw [← ownL_congr e1 e2 _ _ h7]
    exact b.own k hk
end Go.Proofs.Ybulkxiu
