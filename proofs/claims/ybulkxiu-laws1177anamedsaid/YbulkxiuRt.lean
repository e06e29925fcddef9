import Derived.Test.YbulkxiuBl
namespace Go.Proofs.Ybulkxiu
open Go.RowKit
set_option maxRecDepth 100000
/-- The blocks of the tags 33 and 37 may get other tags. -/
def Rt (tg tg' : Nat → Nat) : Prop := ∀ b, tg b ≠ 33 ∧ tg b ≠ 37 → tg' b = tg b
section
variable {B0 : Nat} {w : World} {tg tg' : Nat → Nat}
theorem RowF.rt {T e k n : Nat} {v : Value} {F : Nat → Value} (h : RowF B0 w tg T e k v n F) (r : Rt tg tg') (hT : T ≠ 33 ∧ T ≠ 37) : RowF B0 w tg' T e k v n F := by
  obtain ⟨xs, h1, h2, h3⟩ := h
  exact ⟨xs, h1, h2, fun b hb => (r b (by rw [h3 b hb]; exact hT)).trans (h3 b hb)⟩
theorem EvMem.rt {e num : Nat} {ty ky : Bool} {cs : List (Option Nat)} {i : Nat} (h : EvMem w tg e num ty ky cs i) (r : Rt tg tg') : EvMem w tg' e num ty ky cs i := by
  obtain ⟨a, ad, c, h1, h2, h3, h4, h5, h6, h7, h8⟩ := h
  refine ⟨a, ad, c, h1, h2, h3, h4, h5, h6, h7, fun t ht => ?_⟩
  obtain ⟨b, o, e1, e2, e3⟩ := h8 t ht
  exact ⟨b, o, e1, (r b (by omega)).trans e2, e3⟩
theorem ReadsT.rt {v : Value} {K : List Nat} (h : ReadsT w tg v K) (r : Rt tg tg') : ReadsT w tg' v K := by
  rcases h with h | ⟨b, c, h1, hcl, h2, h3, h4⟩
  · exact Or.inl h
  · exact Or.inr ⟨b, c, h1, hcl, (r b (by omega)).trans h2, h3, h4⟩
theorem ReadsU.rt {v : Value} {K : List Nat} (h : ReadsU w tg v K) (r : Rt tg tg') : ReadsU w tg' v K := by
  rcases h with h | ⟨b, c, h1, hc, h2, h3, h4⟩
  · exact Or.inl h
  · exact Or.inr ⟨b, c, h1, hc, (r b (by omega)).trans h2, h3, h4⟩
theorem NamedMem.rt {mp : Option Nat} {G : PG} {nm : Nat → List Nat} (h : NamedMem B0 w tg mp G nm) (r : Rt tg tg') : NamedMem B0 w tg' mp G nm := by
  rcases h with h | ⟨mb, c, g, h1, h2, h3, h3c, h4, h4n, h5⟩
  · exact Or.inl h
  · refine Or.inr ⟨mb, c, g, h1, (r mb (by omega)).trans h2, h3, h3c, h4, h4n, fun k hk => ⟨(h5 k hk).1, fun q => ?_⟩⟩
    obtain ⟨v, e1, e2⟩ := (h5 k hk).2 q
    exact ⟨v, e1, e2.rt r⟩
theorem GI.rt {gB : Nat} {nv : Value} {mp : Option Nat} {G : PG} {cv : Nat → Value} {cb : Nat → List Nat} {cs : Nat → List (Option Nat)} {i : Nat} {nm : Nat → List Nat} (h : GI B0 w tg gB nv mp G cv cb cs i nm) (r : Rt tg tg') : GI B0 w tg' gB nv mp G cv cb cs i nm :=
  ⟨h.wf, h.gblk, (r gB (by rw [h.gtag]; omega)).trans h.gtag, h.gbase, h.nodes.rt r (by omega), fun k hk => (h.cited k hk).rt r (by omega), fun k hk => (h.evs k hk).rt r, fun k hk => (r _ (by rw [h.evt k hk]; omega)).trans (h.evt k hk), h.evb, h.named.rt r, h.nmlt⟩
theorem XI.rt {xB mb nmx i : Nat} {recsV idbV : Value} {evp : Nat → Option Nat} (h : XI B0 w tg xB mb nmx i recsV idbV evp) (r : Rt tg tg') : XI B0 w tg' xB mb nmx i recsV idbV evp := by
  obtain ⟨a, a1, a2, a3, a4, a5⟩ := h.blk
  refine ⟨⟨a, a1, a2, a3, a4, fun p => ?_⟩, (r xB (by rw [h.tx]; omega)).trans h.tx, h.bx, h.recs.rt r (by omega), h.idb.rt r (by omega), h.map, (r mb (by rw [h.tm]; omega)).trans h.tm, h.bm, h.le⟩
  obtain ⟨rb, cr, ib, ci, e1, e2, e3, e4, e5, e6⟩ := a5 p
  exact ⟨rb, cr, ib, ci, e1, e2, e3, (r rb (by omega)).trans e4, e5, (r ib (by omega)).trans e6⟩
theorem MI.rt {mB : Nat} {V : MVs} {G : PG} {cvm : Nat → Value} {cbm : Nat → List Nat} {ovm : Nat → Value} {own : Nat → List Nat} (h : MI B0 w tg mB V G cvm cbm ovm own) (r : Rt tg tg') : MI B0 w tg' mB V G cvm cbm ovm own :=
  ⟨h.blk, (r mB (by rw [h.tm]; omega)).trans h.tm, h.bm, h.evs.rt r (by omega), h.par.rt r (by omega), h.dep.rt r (by omega), h.ownr.rt r (by omega), h.cbr.rt r (by omega), fun k hk => (h.cited k hk).rt r (by omega), fun k hk => (h.owns k hk).rt r⟩
theorem LI.rt {sE nO tyB kyB len i : Nat} {evp : Nat → Option Nat} {nd : Nat → Nat} (h : LI B0 w tg sE nO tyB kyB len i evp nd) (r : Rt tg tg') : LI B0 w tg' sE nO tyB kyB len i evp nd :=
  ⟨h.se.rt r (by omega), h.no.rt r (by omega), h.t0, h.t1, h.k0, h.k1, (r _ (by rw [h.tt]; omega)).trans h.tt, (r _ (by rw [h.tk]; omega)).trans h.tk⟩
theorem NumT.rt {i : Nat} {evp : Nat → Option Nat} {nd : Nat → Nat} {G : PG} (h : NumT w tg i evp nd G) (r : Rt tg tg') : NumT w tg' i evp nd G := fun j hj e he => by
  rcases h j hj e he with ⟨h1, h2, h3⟩ | h
  · exact Or.inl ⟨h1, (r e (by omega)).trans h2, h3⟩
  · exact Or.inr h
end
theorem BI.rt {F : Fx} {w0 : World} {s : GS} {i : Nat} {w : World} {tg' : Nat → Nat} (h : BI F w0 s i w) (r : Rt s.tg tg') : BI F w0 { s with tg := tg' } i w :=
  ⟨h.g.rt r, h.m.rt r, h.x.rt r, h.l.rt r, h.num.rt r, h.nde, h.own, h.cb16, h.cbf, h.ni, h.il, h.len, h.bel, h.sz, fun b hb => (r b (by rw [h.low b hb]; omega)).trans (h.low b hb), h.nk⟩

/-- The step's event has been made, or none is to be. -/
structure ES (F : Fx) (w0 : World) (s : GS) (i : Nat) (cs : List (Option Nat)) (evo : Option Nat) (node ty ky : Bool) (tgx : Nat → Nat) (s16 : Value) (wx : World) : Prop where
  b : BI F w0 { s with tg := tgx } i wx
  r16 : RowF F.B0 wx tgx 29 3 1 s16 cs.length (csC cs)
  e : ∀ e, evo = some e → EvMem wx tgx e 0 ty ky cs i ∧ F.B0 ≤ e ∧ tgx e = if node then 46 + 8 * s.G.n else 0
theorem LS.event {F : Fx} {w0 : World} {s : GS} {i : Nat} {d : StepD} {m : Nat} {tgx : Nat → Nat} {s16 s17 : Value} {wx : World} (h : LS F w0 s i (citeL i d m) tgx s16 s17 wx) (hm : m ≤ 16) (node ty ky : Bool) (a : Array Value) (ha1 : a[1]? = some (.string (tyS ty))) (ha4 : a[4]? = some (.string (kyS ky))) (ha7 : a[7]? = some (.int .u32 0)) (ha9 : a[9]? = some s17) (w' : World) (hw : w'.heap = (wx.alloc (.cells a 56)).heap) (ho : w'.os = wx.os) (ht : w'.tape = wx.tape) (hu : w'.output = wx.output) :
    ∃ tg', ES F w0 s i (citeL i d m) (some wx.heap.size) node ty ky tg' s16 w' := by
  have r : Rt tgx (fun b => if tgx b = 33 then 0 else tgx b) := fun b hb => if_neg hb.1
  let tgy : Nat → Nat := fun b => if tgx b = 33 then 0 else tgx b
  have b1 := h.b.rt (tg' := tgy) r
  have f : Fr (fun _ => False) wx tgy w' (nT tgy wx.heap.size (if node then 46 + 8 * s.G.n else 0)) := by
    have f0 := Fr.of_alloc (fun _ => False) wx tgy (.cells a 56) (if node then 46 + 8 * s.G.n else 0)
    exact ⟨ho, ht, hu, by rw [hw]; exact f0.size, f0.tag, fun b hb hS => by rw [hw]; exact f0.block b hb hS⟩
  have hen : w'.heap[wx.heap.size]? = some (.cells a 56 (0, 0)) := by rw [hw]; exact heap_alloc_new _ _
  refine ⟨nT tgy wx.heap.size (if node then 46 + 8 * s.G.n else 0), b1.fr f (fun _ q => q.elim), (h.r16.rt r (by omega)).fr f (fun q => q), fun e he => ?_⟩
  cases he
  refine ⟨?_, h.b.sz, nT_ge _ _ _ _ (Nat.le_refl _)⟩
  obtain ⟨ad, c, v1, v2, v3⟩ := h.r17.form
  rw [v1] at ha9
  refine ⟨a, ad, c, hen, ha1, ha4, ha7, ha9, by rw [citeL_len]; exact hm, citeL_lt i d m, fun t htl => ?_⟩
  obtain ⟨g, rfl, _, hgl, hgt, hgc, _⟩ := v3 (by omega)
  refine ⟨g, 0, rfl, ?_, ?_⟩
  · rw [nT_lt _ _ _ _ hgl]
    show (if tgx g = 33 then 0 else tgx g) = 0
    rw [if_pos hgt]
  · rw [Nat.zero_add]
    exact (World.cell?_of_block (by show w'.heap[g]? = _; rw [hw]; exact (World.grownBy_alloc wx (.cells a 56) none).block g hgl (by simp))).trans (hgc t (by omega))
theorem LS.noEvent {F : Fx} {w0 : World} {s : GS} {i : Nat} {cs : List (Option Nat)} {tgx : Nat → Nat} {s16 s17 : Value} {wx : World} (h : LS F w0 s i cs tgx s16 s17 wx) (node ty ky : Bool) : ES F w0 s i cs none node ty ky tgx s16 wx := ⟨h.b, h.r16, fun e he => by cases he⟩
theorem idx62 (t b : Nat) (w : World) : (Instr.indexAt 62 (.pointer (some ⟨b, 0, none⟩)) (.int .u8 ((t : Int).tmod 2))).run Yba.prog w = .ok (.pointer (some ⟨b, t % 2, none⟩)) w := by
  have h : t % 2 = 0 ∨ t % 2 = 1 := by omega
  rw [Int.tmod_eq_emod_of_nonneg (by omega)]
  rcases h with h | h
  · have e : (t : Int) % 2 = 0 := by omega
    rw [e, h]
    go_simp
  · have e : (t : Int) % 2 = 1 := by omega
    rw [e, h]
    go_simp
theorem info85 : (Yba.prog.info? 85).map (fun i => (i.zero, i.size, i.bytes)) = some (some (.agg #[.pointer none, .int .u64 0, .int .u32 0, .int .u8 0, .int .u8 0, .bool false, .bool false, .int .u32 0, .int .u32 0, .int .u32 0, .int .u32 0]), 11, 40) := by kernel_rfl
end Go.Proofs.Ybulkxiu
