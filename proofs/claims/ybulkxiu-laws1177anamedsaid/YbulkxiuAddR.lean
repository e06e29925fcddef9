import Derived.Test.YbulkxiuAddQ
namespace Go.Proofs.Ybulkxiu
open Go.RowKit
set_option maxRecDepth 100000

/-- add, in the midst of it: N: the cites read so far; a: the new node's cells. -/
structure AddSt (B0 : Nat) (w : World) (tg : Nat → Nat) (gB : Nat) (nv : Value) (mp : Option Nat) (G : PG) (cb : Nat → List Nat) (cs : Nat → List (Option Nat)) (i : Nat) (nm : Nat → List Nat) (evb : Nat) (ty ky : Bool) (c : List (Option Nat)) (N : List Nat) (a : Array Value) (wr : World) (tgr : Nat → Nat) (cvr : Nat → Value) : Prop where
  g : GI B0 wr tgr gB nv mp G cvr (cbL (G.n + 1) cb N) cs i nm
  ev : EvMem wr tgr evb (G.n + 1) ty ky c i
  evt : tgr evb = 46 + 8 * G.n
  fr : Fr (fun T => T % 4 = 2) w tg wr tgr
  nb : wr.heap[w.heap.size]? = some (.cells a 49 (0, 0))
  nt : tgr w.heap.size = 18
section
variable {B0 : Nat} {w : World} {tg : Nat → Nat} {gB : Nat} {nv : Value} {mp : Option Nat} {G : PG} {cb : Nat → List Nat} {cs : Nat → List (Option Nat)} {i : Nat} {nm : Nat → List Nat} {evb : Nat} {ty ky : Bool} {c : List (Option Nat)} {N : List Nat} {a : Array Value} {wr : World} {tgr : Nat → Nat} {cvr : Nat → Value}
theorem AddSt.fr0 {w' : World} {tg' : Nat → Nat} (s : AddSt B0 w tg gB nv mp G cb cs i nm evb ty ky c N a wr tgr cvr) (f : Fr (fun _ => False) wr tgr w' tg') : AddSt B0 w tg gB nv mp G cb cs i nm evb ty ky c N a w' tg' cvr :=
  ⟨s.g.fr f (fun _ q => q.elim), s.ev.fr f (fun q => q) (fun q => q), (f.tag _ s.ev.lt).trans s.evt, s.fr.trans (f.mono fun _ q => q.elim), f.heap s.nb (fun q => q), (f.tagOf s.nb).trans s.nt⟩
theorem AddSt.skip (s : AddSt B0 w tg gB nv mp G cb cs i nm evb ty ky c N a wr tgr cvr) : AddSt B0 w tg gB nv mp G cb cs i nm evb ty ky c (N ++ [0]) a wr tgr cvr := by
  have h : cbL (G.n + 1) cb (N ++ [0]) = cbL (G.n + 1) cb N := by rw [cbL_snoc]; rfl
  exact ⟨by rw [h]; exact s.g, s.ev, s.evt, s.fr, s.nb, s.nt⟩
theorem AddSt.setN (s : AddSt B0 w tg gB nv mp G cb cs i nm evb ty ky c N a wr tgr cvr) (o : Nat) (v : Value) : AddSt B0 w tg gB nv mp G cb cs i nm evb ty ky c N (a.setIfInBounds o v) (wr.setCell ⟨w.heap.size, o, none⟩ v) tgr cvr := by
  have f : Fr (fun T => T = 18) wr tgr (wr.setCell ⟨w.heap.size, o, none⟩ v) tgr := Fr.of_set _ _ _ _ s.nt
  refine ⟨s.g.fr f (fun T q => ⟨by omega, by omega, by omega, by omega, fun k _ => by omega⟩), s.ev.fr f (by omega) (by rw [s.evt]; omega), s.evt, s.fr.trans (f.mono fun _ q => by omega), heap_setCell_same wr w.heap.size o a 49 v s.nb, s.nt⟩
theorem AddSt.set2 {x0 x1 x2 x3 x4 x5 : Value} (s : AddSt B0 w tg gB nv mp G cb cs i nm evb ty ky c N #[x0, x1, x2, x3, x4, x5] wr tgr cvr) (v : Value) : AddSt B0 w tg gB nv mp G cb cs i nm evb ty ky c N #[x0, x1, v, x3, x4, x5] (wr.setCell ⟨w.heap.size, 2, none⟩ v) tgr cvr := s.setN 2 v
theorem AddSt.set3 {x0 x1 x2 x3 x4 x5 : Value} (s : AddSt B0 w tg gB nv mp G cb cs i nm evb ty ky c N #[x0, x1, x2, x3, x4, x5] wr tgr cvr) (v : Value) : AddSt B0 w tg gB nv mp G cb cs i nm evb ty ky c N #[x0, x1, x2, v, x4, x5] (wr.setCell ⟨w.heap.size, 3, none⟩ v) tgr cvr := s.setN 3 v
theorem AddSt.set4 {x0 x1 x2 x3 x4 x5 : Value} (s : AddSt B0 w tg gB nv mp G cb cs i nm evb ty ky c N #[x0, x1, x2, x3, x4, x5] wr tgr cvr) (v : Value) : AddSt B0 w tg gB nv mp G cb cs i nm evb ty ky c N #[x0, x1, x2, x3, v, x5] (wr.setCell ⟨w.heap.size, 4, none⟩ v) tgr cvr := s.setN 4 v
theorem AddSt.cite (s : AddSt B0 w tg gB nv mp G cb cs i nm evb ty ky c N a wr tgr cvr) {q : Nat} (hq : q < G.n) {w2 : World} {tg2 : Nat → Nat} {v' : Value} (f : Fr (fun T => T = 42 + 8 * q) wr tgr w2 tg2) (row : RowL B0 w2 tg2 (42 + 8 * q) v' (cbL (G.n + 1) cb N q ++ [G.n + 1])) {nb cap : Nat} (hnv : nv = .slice (some ⟨nb, 0, none⟩) G.n cap) :
    AddSt B0 w tg gB nv mp G cb cs i nm evb ty ky c (N ++ [q + 1]) a (w2.setCell ⟨nb, q * 6 + 1, none⟩ v') tg2 (upd cvr q v') := by
  have h : cbL (G.n + 1) cb (N ++ [q + 1]) = upd (cbL (G.n + 1) cb N) q (cbL (G.n + 1) cb N q ++ [G.n + 1]) := by rw [cbL_snoc]; rfl
  have ht : tgr nb = 6 := by obtain ⟨xs, _, _, h3⟩ := s.g.nodes; exact h3 nb (by rw [hnv]; rfl)
  have hnb : nb < wr.heap.size := by obtain ⟨xs, h1, _, _⟩ := s.g.nodes; exact (h1.lt nb (by rw [hnv]; rfl)).2
  have f2 : Fr (fun T => T = 6) w2 tg2 (w2.setCell ⟨nb, q * 6 + 1, none⟩ v') tg2 := Fr.of_set _ _ _ _ ((f.tag nb hnb).trans ht)
  have F : Fr (fun T => T = 42 + 8 * q ∨ T = 6) wr tgr (w2.setCell ⟨nb, q * 6 + 1, none⟩ v') tg2 := (f.mono fun _ h => Or.inl h).trans (f2.mono fun _ h => Or.inr h)
  exact ⟨by rw [h]; exact s.g.cite hq f row hnv, s.ev.fr F (by omega) (by rw [s.evt]; omega), (F.tag _ s.ev.lt).trans s.evt, s.fr.trans (F.mono fun _ q => by omega), F.heap s.nb (by rw [s.nt]; omega), (F.tagOf s.nb).trans s.nt⟩
end
theorem keepFrozen {w : World} {o : Obj} {a : Addr} (h : w.frozen? a = false) (hl : a.block < w.heap.size) : (w.alloc o).drew.frozen? a = false :=
  (World.frozen?_of_block (w := w) (w' := (w.alloc o).drew) (a := a) ((World.grownBy_alloc w o none).block _ hl (by simp))).trans h
theorem keepCell {w : World} {o : Obj} {a : Addr} {v : Value} (h : w.cell? a = some v) : (w.alloc o).drew.cell? a = some v :=
  (World.cell?_of_block (w := w) (w' := (w.alloc o).drew) (a := a) ((World.grownBy_alloc w o none).block _ (World.block_lt_of_cell? w a h) (by simp))).trans h
theorem WF.jmp_lt {G : PG} (h : WF G) (k : Nat) (hk : k < G.n) : ∃ j, G.jmp k = j + 1 ∧ j ≤ k ∧ G.dep j ≤ G.dep k := by
  by_cases hp : G.par k = 0
  · exact ⟨k, (h.root k hk hp).2, Nat.le_refl _, Nat.le_refl _⟩
  · obtain ⟨_, _, t, _, t2, t3⟩ := h.kid k hk hp
    obtain ⟨j, j1, j2, j3⟩ := h.up t k hk t2
    exact ⟨j, t3.symm.trans j1, j2, by omega⟩
theorem nodeC_old (G : PG) (cv : Nat → Value) (e : Nat) (ty ky : Bool) (p : Nat) (v : Value) : ∀ j, j < G.n * 6 → nodeC (addG G e ty ky p) (upd cv G.n v) j = nodeC G cv j := fun j hj => by
  have h : j / 6 ≠ G.n := by omega
  unfold nodeC addG
  simp only [upd_other _ _ _ h]
theorem nodeC_new (G : PG) (cv : Nat → Value) (e : Nat) (ty ky : Bool) (p : Nat) (v : Value) : ∀ j, j < 6 → [Value.pointer (some ⟨e, 0, none⟩), v, .int .u32 (p : Int), .int .u32 (depOf G p : Int), .int .u32 (jmpOf G p : Int), .int .u32 0][j]? = some (nodeC (addG G e ty ky p) (upd cv G.n v) (G.n * 6 + j)) := fun j hj => by
  have h5 : j = 0 ∨ j = 1 ∨ j = 2 ∨ j = 3 ∨ j = 4 ∨ j = 5 := by omega
  rcases h5 with rfl | rfl | rfl | rfl | rfl | rfl
  · rw [Nat.add_zero, nodeC_0]; simp [addG, upd_same]
  · rw [nodeC_1]; simp [upd_same]
  · rw [nodeC_2]; simp [addG, upd_same]
  · rw [nodeC_3]; simp [addG, upd_same]
  · rw [nodeC_4]; simp [addG, upd_same]
  · rw [nodeC_5]; rfl
theorem info49 : (Yba.prog.info? 49).map (fun i => (i.zero, i.size, i.bytes)) = some (some (.agg #[.pointer none, .slice none 0 0, .int .u32 0, .int .u32 0, .int .u32 0, .int .u32 0]), 6, 48) := by kernel_rfl
section
variable {B0 : Nat} {w : World} {tg : Nat → Nat} {gB : Nat} {nv : Value} {mp : Option Nat} {G : PG} {cb : Nat → List Nat} {cs : Nat → List (Option Nat)} {i : Nat} {nm : Nat → List Nat} {evb : Nat} {ty ky : Bool} {c : List (Option Nat)} {N : List Nat} {a : Array Value} {wr : World} {tgr : Nat → Nat} {cvr : Nat → Value}
theorem AddSt.done (s : AddSt B0 w tg gB nv mp G cb cs i nm evb ty ky c N a wr tgr cvr) {p : Nat} (hp : p ≤ G.n) (hn : G.n + 1 ≤ 512) (evB : B0 ≤ evb) (hcb : cbL (G.n + 1) cb N G.n = [])
    {w2 : World} {tg2 : Nat → Nat} {nv' : Value} {nm' : Nat → List Nat} (f : Fr (fun T => T = 6 ∨ T = 10) wr tgr w2 tg2) (row : RowF B0 w2 tg2 6 49 6 nv' (G.n + 1) (nodeC (addG G evb ty ky p) (upd cvr G.n (.slice none 0 0)))) (NM : NamedMem B0 w2 tg2 mp (addG G evb ty ky p) nm')
    (hnm : ∀ k, k < G.n → nm' k = nm k) (hnn : passG (addG G evb ty ky p) G.n = true → (nm' G.n).length ≤ 16 * (depOf G p - G.dep (jmpOf G p - 1)) ∧ ∀ y ∈ nm' G.n, y < G.n) (hj : jmpOf G p - 1 < G.n ∨ p = 0) :
    ∃ tg' nv2 mp' cv', GI B0 (w2.setCell ⟨gB, 0, none⟩ nv') tg' gB nv2 mp' (addG G evb ty ky p) cv' (cbL (G.n + 1) cb N) (upd cs G.n c) i nm' ∧ Fr (fun T => T % 4 = 2) w tg (w2.setCell ⟨gB, 0, none⟩ nv') tg' := by
  refine ⟨tg2, nv', mp, _, s.g.push hp hn s.ev s.evt evB hcb f row NM hnm hnn hj, ?_⟩
  obtain ⟨ga, a1, _⟩ := s.g.gblk
  exact (s.fr.trans (f.mono fun _ q => by omega)).trans (Fr.of_set _ _ _ _ (by show tg2 gB % 4 = 2; rw [f.tagOf a1, s.g.gtag]))
end
theorem map_take_succ {α : Type} (c : List (Option Nat)) (f : Option Nat → α) (t : Nat) (h : t < c.length) : (c.map f).take (t + 1) = (c.map f).take t ++ [f (c.getD t none)] := by
  rw [List.take_succ_eq_append_getElem (by simpa using h)]; simp [List.getD, h]

theorem eqMap_nil (w : World) : (binOp .eql 29 (.map none) (.map none)).run Yba.prog w = .ok (.bool true) w := by
  have h : ∀ d : Nat, (Op.equalIn (d + 1) 29 (.map none) (.map none)).run Yba.prog w = .ok true w := fun d => by
    simp [Op.equalIn, run_underlying Yba.underlying29]
  simp only [binOp]
  simp [Op.equal, Op.maxDepth, h 9999]
theorem eqMap_some (mb : Nat) (w : World) : (binOp .eql 29 (.map (some mb)) (.map none)).run Yba.prog w = .ok (.bool false) w := by
  have h : ∀ d : Nat, (Op.equalIn (d + 1) 29 (.map (some mb)) (.map none)).run Yba.prog w = .ok false w := fun d => by
    simp [Op.equalIn, run_underlying Yba.underlying29]
  simp only [binOp]
  simp [Op.equal, Op.maxDepth, h 9999]
section
variable {B0 : Nat} {w : World} {tg : Nat → Nat} {gB : Nat} {nv : Value} {mp : Option Nat} {G : PG} {cv : Nat → Value} {cb : Nat → List Nat} {cs : Nat → List (Option Nat)} {i : Nat} {nm : Nat → List Nat} {evb : Nat} {ty ky : Bool} {c : List (Option Nat)} {N : List Nat} {a : Array Value} {wr : World} {tgr : Nat → Nat} {cvr : Nat → Value}
/-- The map takes the new node's row. -/
theorem NamedMem.put {mb : Nat} (h : NamedMem B0 w tg (some mb) G nm) (hn : G.n + 1 ≤ 512) {v : Value} {K : List Nat} (R : ReadsT w tg v K) (e : Nat) (ty ky : Bool) (p : Nat) :
    ∃ w2, (Instr.mapUpdate 29 (.map (some mb)) (.int .u32 ((G.n : Int) + 1)) v).run Yba.prog w = .ok () w2 ∧ w.grownBy w2 (some mb) ∧ tg mb = 10 ∧ (passG (addG G e ty ky p) G.n = true → ∀ tg2, Fr (fun T => T = 10) w tg w2 tg2 → NamedMem B0 w2 tg2 (some mb) (addG G e ty ky p) (upd nm G.n K)) := by
  rcases h with ⟨h, _⟩ | ⟨mb', c, f, h1, h2, h3, h4, h5, h6, h7⟩
  · cases h
  · cases h1
    have hwf : (Lit.int .u32 ((G.n : Int) + 1)).wf = true := by simp [Lit.wf, IntKind.min, IntKind.max, IntKind.signed, IntKind.bits]; omega
    obtain ⟨w2, u1, u2, u3⟩ := h5.update Yba.underlying45 Yba.underlying29 (by unfold maxLen; omega) hwf v
    refine ⟨w2, u1, u3, h2, fun hp tg2 F => Or.inr ⟨mb, c + 1, _, rfl, (F.tag mb h5.lt).trans h2, h3, by simp only [addG]; omega, u2, fun k hk => ?_, fun k hk => ?_⟩⟩
    · have hk' : G.n + 1 ≤ k := by simp only [addG] at hk; exact hk
      show (if (k : Int) + 1 = (G.n : Int) + 1 then some v else f ((k : Int) + 1)) = none
      rw [if_neg (by omega)]
      exact h6 k (by omega)
    · show ((_ : Bool) = false → (if (k : Int) + 1 = (G.n : Int) + 1 then some v else f ((k : Int) + 1)) = none) ∧ ((_ : Bool) = true → ∃ v', (if (k : Int) + 1 = (G.n : Int) + 1 then some v else f ((k : Int) + 1)) = some v' ∧ _)
      by_cases q : k = G.n
      · subst q
        rw [if_pos rfl, hp]
        exact ⟨fun q => (by cases q), fun _ => ⟨v, rfl, by rw [upd_same]; exact R.fr F (by omega)⟩⟩
      · have hk' : k < G.n := by simp only [addG] at hk; omega
        rw [if_neg (by omega), passG_old G e ty ky p hk', upd_other _ _ _ q]
        refine ⟨(h7 k hk').1, fun q => ?_⟩
        obtain ⟨v', e1, e2⟩ := (h7 k hk').2 q
        exact ⟨v', e1, e2.fr F (by omega)⟩
theorem own_mem {evp : Nat → Option Nat} {nd : Nat → Nat} {par : Nat} {cs : List (Option Nat)} {e : Nat} (h : e ∈ ownL evp nd par cs) : e ≠ 0 ∧ e ≠ par ∧ e ∈ cs.map (nodeAt evp nd) := by
  unfold ownL at h
  rw [List.mem_filter] at h
  obtain ⟨h1, h2⟩ := h
  simp at h2
  exact ⟨h2.1, h2.2, h1⟩
theorem namN_mem (g : GI B0 w tg gB nv mp G cv cb cs i nm) {evp : Nat → Option Nat} {nd : Nat → Nat} (NT : NumT w tg i evp nd G) {k e : Nat} (hk : k < G.n) (h : e ∈ namN evp nd G cs nm k) : 1 ≤ e ∧ e ≤ G.n := by
  unfold namN at h
  split at h
  · rename_i hp
    obtain ⟨y, hy, rfl⟩ := List.mem_map.1 h
    have := (g.nmlt k hk hp).2 y hy
    omega
  · obtain ⟨h1, _, h2⟩ := own_mem h
    obtain ⟨_, _, _, _, _, _, _, _, _, h7, _⟩ := g.evs k hk
    exact ⟨by omega, NT.le h7 e h2⟩
theorem namN_len (g : GI B0 w tg gB nv mp G cv cb cs i nm) (evp : Nat → Option Nat) (nd : Nat → Nat) {k : Nat} (hk : k < G.n) (hd : G.dep (G.jmp k - 1) < G.dep k) : (namN evp nd G cs nm k).length ≤ 16 * (G.dep k - G.dep (G.jmp k - 1)) := by
  unfold namN
  split
  · rename_i hp
    rw [List.length_map]; exact (g.nmlt k hk hp).1
  · obtain ⟨_, _, _, _, _, _, _, _, h6, _⟩ := g.evs k hk
    have := ownL_len evp nd (G.par k) (cs k)
    omega
theorem ReadsRow.reads {B : Nat} {v : Value} {K : List Nat} (h : ReadsRow w B v K) (ht : ∀ b, B ≤ b → b < w.heap.size → tg b = 0 ∨ v.ownBlock ≠ some b) : ReadsT w tg v K := by
  rcases h with h | ⟨b, c, h1, hcl, h2, h3, h4⟩
  · exact Or.inl h
  · refine Or.inr ⟨b, c, h1, hcl, ?_, h3, h4⟩
    rcases ht b h2 h3 with h | h
    · exact h
    · rw [h1] at h; exact absurd rfl h
/-- What the named row of a new node is: of its own cites, and of what its parent and the parent's jump name. -/
def NamR (evp : Nat → Option Nat) (nd : Nat → Nat) (G : PG) (cs : Nat → List (Option Nat)) (nm : Nat → List Nat) (c : List (Option Nat)) (p : Nat) (K : List Nat) : Prop :=
  ∃ L : List Nat, L.Perm ((ownL evp nd p c ++ namN evp nd G cs nm (p - 1) ++ namN evp nd G cs nm (G.jmp (p - 1) - 1)).map (· - 1)) ∧ SortedG G L ∧ K = red G L
/-- reduced, in add: the map stands. -/
theorem reduced_add (s : AddSt B0 w tg gB nv mp G cb cs i nm evb ty ky c N a wr tgr cvr) (hn0 : 0 < G.n) {w11 : World} (B11 : RowKit.Below wr.heap.size wr w11) (v : Value) (x : List Nat) (hx : ∀ y ∈ x, y < G.n) (R11 : w11.ownsRow wr.heap.size 45 1 v x.length (U32s x)) (hsz : x.length ≤ 1000000) (W : World) (hW : W = w11.drew) :
    Calls Yba.prog 19 #[.pointer (some ⟨gB, 0, none⟩), v] W fun e w12 => ∃ v12, e = .returned v12 ∧ ∃ L tg12, L.Perm x ∧ SortedG G L ∧ AddSt B0 w tg gB nv mp G cb cs i nm evb ty ky c N a w12 tg12 cvr ∧ ReadsT w12 tg12 v12 (red G L) ∧ RowKit.Below wr.heap.size wr w12 := by
  subst hW
  obtain ⟨nb, cn, hnv, M, _, _, hnb, _⟩ := s.g.gmem hn0
  obtain ⟨ga, g1, _⟩ := s.g.gblk
  have BW : RowKit.Below wr.heap.size wr w11.drew := ⟨B11.os, B11.tape, B11.output, B11.size, B11.block⟩
  refine (reduced_any gB nb cn G wr.heap.size w11.drew s.g.wf hn0 (M.of fun _ _ e => (BW.cell (World.block_lt_of_cell? wr _ e)).trans e) (Array.getElem?_eq_some_iff.1 g1).1 hnb (fun k hk => by
    obtain ⟨ca, _, _, e1, _⟩ := s.g.evs k hk
    exact ⟨(Array.getElem?_eq_some_iff.1 e1).1, ca, (BW.block _ (Array.getElem?_eq_some_iff.1 e1).1).trans e1⟩) (fun j k hj hk e => s.g.inj hj hk e) v x hx R11 BW.size hsz).mono ?_
  rintro e w12 ⟨v12, rfl, L, hp, hs, hr, hg, hvv⟩
  have B12 : RowKit.Below wr.heap.size wr w12 := BW.trans ⟨hg.os, hg.tape, hg.output, hg.size, fun b hb => hg.block b (Nat.lt_of_lt_of_le hb BW.size) (fun e => by have := (R11.lt b e.symm).1; omega)⟩
  exact ⟨v12, rfl, L, _, hp, hs, s.fr0 (Fr.of_below _ tgr 0 B12), hr.reads (fun b hb _ => Or.inl (nT_ge _ _ _ _ hb)), B12⟩
/-- reduced, in add: the map has just been made. -/
theorem reduced_new (s : AddSt B0 w tg gB nv none G cb cs i nm evb ty ky c N a wr tgr cvr) (hn0 : 0 < G.n) {w11 : World} (B11 : RowKit.Below wr.heap.size wr w11) (v : Value) (x : List Nat) (hx : ∀ y ∈ x, y < G.n) (R11 : w11.ownsRow wr.heap.size 45 1 v x.length (U32s x)) (hsz : x.length ≤ 1000000) (_hB0 : B0 ≤ wr.heap.size) (W : World) (hW : W = ((w11.alloc (.map #[] 0)).setCell ⟨gB, 2, none⟩ (.map (some w11.heap.size))).drew) :
    Calls Yba.prog 19 #[.pointer (some ⟨gB, 0, none⟩), v] W fun e w12 => ∃ v12, e = .returned v12 ∧ ∃ L tg12, L.Perm x ∧ SortedG G L ∧ AddSt B0 w tg gB nv (some w11.heap.size) G cb cs i nm evb ty ky c N a w12 tg12 cvr ∧ ReadsT w12 tg12 v12 (red G L) ∧ (∀ b, b < wr.heap.size → b ≠ gB → w12.heap[b]? = wr.heap[b]?) := by
  obtain ⟨nb, cn, hnv, M, tnb, _, hnb, _⟩ := s.g.gmem hn0
  obtain ⟨ga, g1, g2, g3⟩ := s.g.gblk
  have hgl : gB < wr.heap.size := (Array.getElem?_eq_some_iff.1 g1).1
  have hs2 : 2 < ga.size := (Array.getElem?_eq_some_iff.1 g3).1
  have hsz11 : wr.heap.size ≤ w11.heap.size := B11.size
  have hgA : (w11.alloc (.map #[] 0)).heap[gB]? = some (.cells ga 39 (0, 0)) := ((World.grownBy_alloc w11 _ none).block gB (by omega) (by simp)).trans ((B11.block gB hgl).trans g1)
  have hgW : W.heap[gB]? = some (.cells (ga.setIfInBounds 2 (.map (some w11.heap.size))) 39 (0, 0)) := by rw [hW]; exact heap_setCell_same _ gB 2 ga 39 _ hgA
  have hoW : ∀ b, b ≠ gB → W.heap[b]? = (w11.alloc (.map #[] 0)).heap[b]? := fun b hb => by rw [hW]; exact heap_setCell_other _ ⟨gB, 2, none⟩ b _ hb
  have hbW : ∀ b, b < wr.heap.size → b ≠ gB → W.heap[b]? = wr.heap[b]? := fun b hb hn => (hoW b hn).trans (((World.grownBy_alloc w11 _ none).block b (by omega) (by simp)).trans (B11.block b hb))
  have hsW : W.heap.size = w11.heap.size + 1 := by rw [hW]; show ((w11.alloc (.map #[] 0)).setCell _ _).heap.size = _; simp
  have hcW : ∀ p u, p.block ≠ gB → wr.cell? p = some u → W.cell? p = some u := fun p u hp h => (World.cell?_of_block (hbW _ (World.block_lt_of_cell? wr p h) hp)).trans h
  have hng : nb ≠ gB := fun e => by rw [e, s.g.gtag] at tnb; omega
  have heg : ∀ k, k < G.n → G.ev k ≠ gB := fun k hk e => by have := s.g.evt k hk; rw [e, s.g.gtag] at this; omega
  have MW : GMem W gB nb cn G := ⟨by rw [cell_of_row W gB 0 _ 39 (0, 0) hgW]; simpa [Array.getElem?_setIfInBounds, hnv] using g2, fun k hk => hcW _ _ hng (M.ev k hk), fun k hk => hcW _ _ hng (M.par k hk), fun k hk => hcW _ _ hng (M.dep k hk), fun k hk => hcW _ _ hng (M.jmp k hk), fun k hk => hcW _ _ (heg k hk) (M.nd k hk), fun k hk => hcW _ _ (heg k hk) (M.ty k hk), fun k hk => hcW _ _ (heg k hk) (M.ky k hk)⟩
  have hvb : ∀ b, v.ownBlock = some b → wr.heap.size ≤ b ∧ b < w11.heap.size := fun b hb => R11.lt b hb
  have RW : W.ownsRow wr.heap.size 45 1 v x.length (U32s x) := by
    refine ⟨R11.1, ?_⟩
    rcases R11.2 with h | ⟨g, cap, cur, h1, h2, h3, h4⟩
    · exact Or.inl h
    · refine Or.inr ⟨g, cap, cur, h1, h2, ?_, h4⟩
      rw [hoW g (by omega), (World.grownBy_alloc w11 _ none).block g (Array.getElem?_eq_some_iff.1 h3).1 (by simp)]
      exact h3
  refine (reduced_any gB nb cn G wr.heap.size W s.g.wf hn0 MW hgl hnb (fun k hk => by
    obtain ⟨ca, _, _, e1, _⟩ := s.g.evs k hk
    exact ⟨(Array.getElem?_eq_some_iff.1 e1).1, ca, (hbW _ (Array.getElem?_eq_some_iff.1 e1).1 (heg k hk)).trans e1⟩) (fun j k hj hk e => s.g.inj hj hk e) v x hx RW (by omega) hsz).mono ?_
  rintro e w12 ⟨v12, rfl, L, hp, hs, hr, hg, hvv⟩
  have hb12 : ∀ b, b < wr.heap.size → b ≠ gB → w12.heap[b]? = wr.heap[b]? := fun b hb hn => (hg.block b (by omega) (fun e => by have := (hvb b e.symm).1; omega)).trans (hbW b hb hn)
  have hg12 : w12.heap[gB]? = some (.cells (ga.setIfInBounds 2 (.map (some w11.heap.size))) 39 (0, 0)) := (hg.block gB (by omega) (fun e => by have := (hvb gB e.symm).1; omega)).trans hgW
  have hm12 : w12.heap[w11.heap.size]? = (w11.alloc (.map #[] 0)).heap[w11.heap.size]? := (hg.block _ (by omega) (fun e => by have := (hvb _ e.symm).2; omega)).trans (hoW _ (by omega))
  have hs12 : W.heap.size ≤ w12.heap.size := hg.size
  have hWos : W.os = wr.os ∧ W.tape = wr.tape ∧ W.output = wr.output := by rw [hW]; exact ⟨B11.os, B11.tape, B11.output⟩
  let tg12 : Nat → Nat := fun b => if b < wr.heap.size then tgr b else if b = w11.heap.size then 10 else 0
  have tlt : ∀ b, b < wr.heap.size → tg12 b = tgr b := fun b hb => if_pos hb
  have f : Fr (fun T => T = 2) wr tgr w12 tg12 := ⟨hg.os.trans hWos.1, hg.tape.trans hWos.2.1, hg.output.trans hWos.2.2, by omega, tlt, fun b hb hS => hb12 b hb (fun e => hS (by rw [e]; exact s.g.gtag))⟩
  refine ⟨v12, rfl, L, tg12, hp, hs, ⟨⟨s.g.wf, ⟨_, hg12, by simpa [Array.getElem?_setIfInBounds] using g2, by simp [hs2]⟩, (tlt gB hgl).trans s.g.gtag, s.g.gbase, s.g.nodes.fr f (by omega), fun k hk => (s.g.cited k hk).fr f (by omega), fun k hk => (s.g.evs k hk).fr f (by omega) (by rw [s.g.evt k hk]; omega), fun k hk => (f.tag _ (s.g.evs k hk).lt).trans (s.g.evt k hk), s.g.evb, ?_, s.g.nmlt⟩, s.ev.fr f (by omega) (by rw [s.evt]; omega), (f.tag _ s.ev.lt).trans s.evt, s.fr.trans (f.mono fun _ q => by omega), f.heap s.nb (by rw [s.nt]; omega), (f.tagOf s.nb).trans s.nt⟩, hr.reads (fun b hb hb2 => ?_), hb12⟩
  · rcases s.g.named with ⟨_, h0⟩ | ⟨mb, c', f', h1, _⟩
    · refine Or.inr ⟨w11.heap.size, 0, fun _ => none, rfl, ?_, by omega, Nat.zero_le _, (MapV.made w11 45 .u32).of hm12, fun _ _ => rfl, fun k hk => ⟨fun _ => rfl, fun q => by rw [h0 k hk] at q; cases q⟩⟩
      show (if w11.heap.size < wr.heap.size then tgr w11.heap.size else if w11.heap.size = w11.heap.size then 10 else 0) = 10
      rw [if_neg (by omega), if_pos rfl]
    · cases h1
  · by_cases q : b = w11.heap.size
    · right
      intro e
      rw [hvv, q] at e
      have := (hvb _ e).2
      omega
    · left
      show (if b < wr.heap.size then tgr b else if b = w11.heap.size then 10 else 0) = 0
      rw [if_neg (by omega), if_neg q]
end
end Go.Proofs.Ybulkxiu
