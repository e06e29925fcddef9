import Derived.Test.YbulkxiuAddP
namespace Go.Proofs.Ybulkxiu
open Go.RowKit
set_option maxRecDepth 100000

/-- The index's blocks, by their tags. -/
structure XTag (tg : Nat → Nat) (xB rb db ib ab mb i : Nat) : Prop where
  tx : tg xB = 1
  tm : tg mb = 5
  tr : 0 < i → tg rb = 0
  td : 0 < i → tg db = 9
  ti : 0 < i → tg ib = 0
  ta : 0 < i → tg ab = 13
theorem XMem.fr {S : Nat → Prop} {w w' : World} {tg tg' : Nat → Nat} {xB rb cr db cd ib ci ab ca mb nm i : Nat} {evp : Nat → Option Nat} (h : XMem w xB rb cr db cd ib ci ab ca mb nm i evp) (t : XTag tg xB rb db ib ab mb i) (f : Fr S w tg w' tg') (hS : ∀ T, S T → T ≠ 0 ∧ T ≠ 1 ∧ T ≠ 5 ∧ T ≠ 9 ∧ T ≠ 13) :
    XMem w' xB rb cr db cd ib ci ab ca mb nm i evp ∧ XTag tg' xB rb db ib ab mb i := by
  have cx : ∀ o v, w.cell? ⟨xB, o, none⟩ = some v → w'.cell? ⟨xB, o, none⟩ = some v := fun o v e => f.cell e (fun q => (hS _ q).2.1 t.tx)
  have cr : 0 < i → ∀ o v, w.cell? ⟨rb, o, none⟩ = some v → w'.cell? ⟨rb, o, none⟩ = some v := fun p o v e => f.cell e (fun q => (hS _ q).1 (t.tr p))
  have cd : 0 < i → ∀ o v, w.cell? ⟨db, o, none⟩ = some v → w'.cell? ⟨db, o, none⟩ = some v := fun p o v e => f.cell e (fun q => (hS _ q).2.2.2.1 (t.td p))
  have ci : 0 < i → ∀ o v, w.cell? ⟨ib, o, none⟩ = some v → w'.cell? ⟨ib, o, none⟩ = some v := fun p o v e => f.cell e (fun q => (hS _ q).1 (t.ti p))
  have ca : 0 < i → ∀ o v, w.cell? ⟨ab, o, none⟩ = some v → w'.cell? ⟨ab, o, none⟩ = some v := fun p o v e => f.cell e (fun q => (hS _ q).2.2.2.2 (t.ta p))
  have lt : ∀ {a : Addr} {v : Value}, w.cell? a = some v → a.block < w.heap.size := fun e => World.block_lt_of_cell? w _ e
  refine ⟨⟨h.small, cx _ _ h.x0, cx _ _ h.x1, fun p => cx _ _ (h.x2 p), fun p => cr p _ _ (h.r0 p), fun p => cx _ _ (h.x3 p), fun p => ci p _ _ (h.i0 p), h.cap, fun j p => cd (by omega) _ _ (h.c0 j p), fun j p => cd (by omega) _ _ (h.c1 j p), fun j p => cd (by omega) _ _ (h.c2 j p), fun j p => cd (by omega) _ _ (h.c3 j p), fun j p => cd (by omega) _ _ (h.c4 j p), fun j p => cd (by omega) _ _ (h.c5 j p), fun j p => cd (by omega) _ _ (h.c6 j p), fun j p => cd (by omega) _ _ (h.c7 j p), fun j p => cd (by omega) _ _ (h.c8 j p), fun j p => cd (by omega) _ _ (h.c9 j p), fun j p => cd (by omega) _ _ (h.c10 j p), fun j p t q => ca (by omega) _ _ (h.by0 j p t q), h.mp.of (f.block mb h.mp.lt (fun q => (hS _ q).2.2.1 t.tm))⟩,
    ⟨(f.tag _ (lt h.x0)).trans t.tx, (f.tag _ h.mp.lt).trans t.tm, fun p => (f.tag _ (lt (h.r0 p))).trans (t.tr p), fun p => (f.tag _ (lt (h.c0 0 p))).trans (t.td p), fun p => (f.tag _ (lt (h.i0 p))).trans (t.ti p), fun p => (f.tag _ (lt (h.by0 0 p 0 (by omega)))).trans (t.ta p)⟩⟩

/-- The steps' events and their numbers. -/
def NumT (w : World) (tg : Nat → Nat) (i : Nat) (evp : Nat → Option Nat) (nd : Nat → Nat) (G : PG) : Prop :=
  ∀ j, j < i → ∀ e, evp j = some e → (nd j = 0 ∧ tg e = 0 ∧ w.cell? ⟨e, 7, none⟩ = some (.int .u32 0)) ∨ (nd j ≠ 0 ∧ nd j ≤ G.n ∧ G.ev (nd j - 1) = e)
theorem NumT.fr {S : Nat → Prop} {w w' : World} {tg tg' : Nat → Nat} {i : Nat} {evp : Nat → Option Nat} {nd : Nat → Nat} {G : PG} (h : NumT w tg i evp nd G) (f : Fr S w tg w' tg') (h0 : ¬ S 0) : NumT w' tg' i evp nd G := fun j hj e he => by
  rcases h j hj e he with ⟨h1, h2, h3⟩ | h
  · exact Or.inl ⟨h1, (f.tag _ (World.block_lt_of_cell? w _ h3)).trans h2, f.cell h3 (by show ¬ S (tg e); rw [h2]; exact h0)⟩
  · exact Or.inr h
theorem NumT.mem {B0 : Nat} {w : World} {tg : Nat → Nat} {gB : Nat} {nv : Value} {mp : Option Nat} {G : PG} {cv : Nat → Value} {cb : Nat → List Nat} {cs : Nat → List (Option Nat)} {i : Nat} {nm : Nat → List Nat} {evp : Nat → Option Nat} {nd : Nat → Nat} (h : NumT w tg i evp nd G) (g : GI B0 w tg gB nv mp G cv cb cs i nm) : NumMem w i evp nd := fun j hj e he => by
  rcases h j hj e he with ⟨h1, _, h3⟩ | ⟨h1, h2, h3⟩
  · rw [h1]; exact ⟨h3, World.block_lt_of_cell? w _ h3⟩
  · obtain ⟨a, ad, c, e1, _, _, e4, _⟩ := g.evs (nd j - 1) (by omega)
    rw [h3] at e1
    rw [show nd j - 1 + 1 = nd j by omega] at e4
    exact ⟨EvMem.cellAt e1 e4, (Array.getElem?_eq_some_iff.1 e1).1⟩
theorem NumT.le {w : World} {tg : Nat → Nat} {i : Nat} {evp : Nat → Option Nat} {nd : Nat → Nat} {G : PG} (h : NumT w tg i evp nd G) {cs : List (Option Nat)} (hcs : ∀ t j, cs.getD t none = some j → j < i) : ∀ c ∈ cs.map (nodeAt evp nd), c ≤ G.n := fun c hc => by
  obtain ⟨o, ho, rfl⟩ := List.mem_map.1 hc
  cases o with
  | none => exact Nat.zero_le _
  | some j =>
    obtain ⟨t, ht, e⟩ := List.mem_iff_getElem.1 ho
    have hj : j < i := hcs t j (by simp [List.getD, ht, e])
    show (if (evp j).isSome = true then nd j else 0) ≤ G.n
    cases he : evp j with
    | none => simp
    | some e =>
      simp only [Option.isSome_some, if_true]
      rcases h j hj e he with ⟨h1, _⟩ | ⟨_, h2, _⟩ <;> omega
/-- The event gets its number. -/
theorem EvMem.num {w : World} {tg : Nat → Nat} {e num : Nat} {ty ky : Bool} {cs : List (Option Nat)} {i : Nat} (h : EvMem w tg e num ty ky cs i) (x : Nat) (ht : tg e ≠ 0) : EvMem (w.setCell ⟨e, 7, none⟩ (.int .u32 (x : Int))) tg e x ty ky cs i := by
  obtain ⟨a, ad, c, h1, h2, h3, h4, h5, h6, h7, h8⟩ := h
  have hs : 7 < a.size := (Array.getElem?_eq_some_iff.1 h4).1
  refine ⟨a.setIfInBounds 7 (.int .u32 x), ad, c, heap_setCell_same w e 7 a 56 _ h1, by simpa [Array.getElem?_setIfInBounds] using h2, by simpa [Array.getElem?_setIfInBounds] using h3, by simp [hs], by simpa [Array.getElem?_setIfInBounds] using h5, h6, h7, fun t p => ?_⟩
  obtain ⟨b, o, e1, e2, e3⟩ := h8 t p
  refine ⟨b, o, e1, e2, ?_⟩
  have hne : b ≠ e := fun q => ht (q ▸ e2)
  exact (World.cell?_of_block (heap_setCell_other w ⟨e, 7, none⟩ b _ hne)).trans e3

section
variable {B0 : Nat} {w : World} {tg : Nat → Nat} {gB : Nat} {nv : Value} {mp : Option Nat} {G : PG} {cv : Nat → Value} {cb : Nat → List Nat} {cs : Nat → List (Option Nat)} {i : Nat} {nm : Nat → List Nat}
theorem NamedMem.skip (h : NamedMem B0 w tg mp G nm) (e : Nat) (ty ky : Bool) (p : Nat) (hp : passG (addG G e ty ky p) G.n = false) : NamedMem B0 w tg mp (addG G e ty ky p) nm := by
  rcases h with ⟨h1, h2⟩ | ⟨mb, c, f, h1, h2, h3, h4, h5, h6, h7⟩
  · refine Or.inl ⟨h1, fun k hk => ?_⟩
    by_cases q : k = G.n
    · rw [q]; exact hp
    · have hk' : k < G.n := by simp only [addG] at hk; omega
      rw [passG_old G e ty ky p hk']; exact h2 k hk'
  · refine Or.inr ⟨mb, c, f, h1, h2, h3, by simp only [addG]; omega, h5, fun k hk => h6 k (by simp only [addG] at hk; omega), fun k hk => ?_⟩
    by_cases q : k = G.n
    · subst q
      exact ⟨fun _ => h6 G.n (Nat.le_refl _), fun q => by rw [hp] at q; cases q⟩
    · have hk' : k < G.n := by simp only [addG] at hk; omega
      rw [passG_old G e ty ky p hk']; exact h7 k hk'
/-- A node more. -/
theorem GI.push (g : GI B0 w tg gB nv mp G cv cb cs i nm) {evb : Nat} {ty ky : Bool} {c : List (Option Nat)} {p : Nat} (hp : p ≤ G.n) (hn : G.n + 1 ≤ 512) (ev : EvMem w tg evb (G.n + 1) ty ky c i) (evt : tg evb = 46 + 8 * G.n) (evB : B0 ≤ evb) (hcb : cb G.n = [])
    {w2 : World} {tg2 : Nat → Nat} {nv' : Value} {nm' : Nat → List Nat} (f : Fr (fun T => T = 6 ∨ T = 10) w tg w2 tg2) (row : RowF B0 w2 tg2 6 49 6 nv' (G.n + 1) (nodeC (addG G evb ty ky p) (upd cv G.n (.slice none 0 0)))) (NM : NamedMem B0 w2 tg2 mp (addG G evb ty ky p) nm')
    (hnm : ∀ k, k < G.n → nm' k = nm k) (hnn : passG (addG G evb ty ky p) G.n = true → (nm' G.n).length ≤ 16 * (depOf G p - G.dep (jmpOf G p - 1)) ∧ ∀ y ∈ nm' G.n, y < G.n) (hj : jmpOf G p - 1 < G.n ∨ p = 0) :
    GI B0 (w2.setCell ⟨gB, 0, none⟩ nv') tg2 gB nv' mp (addG G evb ty ky p) (upd cv G.n (.slice none 0 0)) cb (upd cs G.n c) i nm' := by
  obtain ⟨a, a1, a2, a3⟩ := g.gblk
  have a1' := f.heap a1 (by rw [g.gtag]; omega)
  have tgB : tg2 gB = 2 := (f.tagOf a1).trans g.gtag
  have f2 : Fr (fun T => T = 2) w2 tg2 (w2.setCell ⟨gB, 0, none⟩ nv') tg2 := Fr.of_set _ _ _ _ tgB
  have F : Fr (fun T => T = 6 ∨ T = 10 ∨ T = 2) w tg (w2.setCell ⟨gB, 0, none⟩ nv') tg2 := (f.mono fun _ h => by omega).trans (f2.mono fun _ h => by omega)
  have hs0 : 0 < a.size := (Array.getElem?_eq_some_iff.1 a2).1
  refine ⟨g.wf.add evb ty ky p hp hn, ⟨a.setIfInBounds 0 nv', heap_setCell_same w2 gB 0 a 39 _ a1', by simp [hs0], by simpa [Array.getElem?_setIfInBounds] using a3⟩, tgB, g.gbase, row.fr f2 (by omega), fun k hk => ?_, fun k hk => ?_, fun k hk => ?_, fun k hk => ?_, NM.fr f2 (by omega) (by omega), fun k hk hpk => ?_⟩
  · by_cases q : k = G.n
    · subst q
      rw [upd_same, hcb]
      exact RowF.nil _ _ _ _ _ _ _
    · have hk' : k < G.n := by simp only [addG] at hk; omega
      rw [upd_other _ _ _ q]
      exact (g.cited k hk').fr F (by omega)
  · by_cases q : k = G.n
    · subst q
      simp only [addG, upd_same]
      exact ev.fr F (by omega) (by rw [evt]; omega)
    · have hk' : k < G.n := by simp only [addG] at hk; omega
      simp only [addG, upd_other _ _ _ q]
      exact (g.evs k hk').fr F (by omega) (by rw [g.evt k hk']; omega)
  · by_cases q : k = G.n
    · subst q
      simp only [addG, upd_same]
      exact (F.tag _ ev.lt).trans evt
    · have hk' : k < G.n := by simp only [addG] at hk; omega
      simp only [addG, upd_other _ _ _ q]
      exact (F.tag _ (g.evs k hk').lt).trans (g.evt k hk')
  · by_cases q : k = G.n
    · subst q
      simp only [addG, upd_same]; exact evB
    · have hk' : k < G.n := by simp only [addG] at hk; omega
      simp only [addG, upd_other _ _ _ q]
      exact g.evb k hk'
  · by_cases q : k = G.n
    · subst q
      obtain ⟨h1, h2⟩ := hnn hpk
      rw [passG_new, decide_eq_true_eq] at hpk
      refine ⟨?_, h2⟩
      rw [show (addG G evb ty ky p).dep G.n = depOf G p from upd_same _ _ _, show (addG G evb ty ky p).jmp G.n = jmpOf G p from upd_same _ _ _]
      rw [show (addG G evb ty ky p).dep (jmpOf G p - 1) = G.dep (jmpOf G p - 1) from upd_other _ _ _ (by omega)]
      exact h1
    · have hk' : k < G.n := by simp only [addG] at hk; omega
      rw [passG_old G evb ty ky p hk'] at hpk
      rw [hnm k hk']
      have h1 : (addG G evb ty ky p).dep k = G.dep k := upd_other _ _ _ q
      have h2 : (addG G evb ty ky p).jmp k = G.jmp k := upd_other _ _ _ q
      have hjk : G.jmp k - 1 < G.n := by
        have hpar : G.par k ≠ 0 := by unfold passG at hpk; rw [decide_eq_true_eq] at hpk; exact hpk.1
        obtain ⟨_, _, t, _, t2, t3⟩ := g.wf.kid k hk' hpar
        obtain ⟨j, j1, j2, _⟩ := g.wf.up t k hk' t2
        rw [← t3, j1]; omega
      rw [h1, h2, show (addG G evb ty ky p).dep (G.jmp k - 1) = G.dep (G.jmp k - 1) from upd_other _ _ _ (by omega)]
      exact g.nmlt k hk' hpk
end
end Go.Proofs.Ybulkxiu
