import Derived.Test.YbulkxiuRedB
import Derived.Test.YbulkxiuFrame
namespace Go.Proofs.Ybulkxiu
open Go.RowKit
set_option maxRecDepth 100000

/-- The six cells of a node. -/
def nodeC (G : PG) (cv : Nat → Value) (j : Nat) : Value :=
  if j % 6 = 0 then .pointer (some ⟨G.ev (j / 6), 0, none⟩) else if j % 6 = 1 then cv (j / 6) else if j % 6 = 2 then .int .u32 (G.par (j / 6)) else if j % 6 = 3 then .int .u32 (G.dep (j / 6)) else if j % 6 = 4 then .int .u32 (G.jmp (j / 6)) else .int .u32 0
theorem nodeC_0 (G : PG) (cv : Nat → Value) (k : Nat) : nodeC G cv (k * 6) = .pointer (some ⟨G.ev k, 0, none⟩) := by
  unfold nodeC; rw [if_pos (by omega), show k * 6 / 6 = k by omega]
theorem nodeC_1 (G : PG) (cv : Nat → Value) (k : Nat) : nodeC G cv (k * 6 + 1) = cv k := by
  unfold nodeC; rw [if_neg (by omega), if_pos (by omega), show (k * 6 + 1) / 6 = k by omega]
theorem nodeC_2 (G : PG) (cv : Nat → Value) (k : Nat) : nodeC G cv (k * 6 + 2) = .int .u32 (G.par k) := by
  unfold nodeC; rw [if_neg (by omega), if_neg (by omega), if_pos (by omega), show (k * 6 + 2) / 6 = k by omega]
theorem nodeC_3 (G : PG) (cv : Nat → Value) (k : Nat) : nodeC G cv (k * 6 + 3) = .int .u32 (G.dep k) := by
  unfold nodeC; rw [if_neg (by omega), if_neg (by omega), if_neg (by omega), if_pos (by omega), show (k * 6 + 3) / 6 = k by omega]
theorem nodeC_4 (G : PG) (cv : Nat → Value) (k : Nat) : nodeC G cv (k * 6 + 4) = .int .u32 (G.jmp k) := by
  unfold nodeC; rw [if_neg (by omega), if_neg (by omega), if_neg (by omega), if_neg (by omega), if_pos (by omega), show (k * 6 + 4) / 6 = k by omega]
theorem nodeC_5 (G : PG) (cv : Nat → Value) (k : Nat) : nodeC G cv (k * 6 + 5) = .int .u32 0 := by
  unfold nodeC; rw [if_neg (by omega), if_neg (by omega), if_neg (by omega), if_neg (by omega), if_neg (by omega)]

/-- An event in memory: its number, type, key and cites. -/
def EvMem (w : World) (tg : Nat → Nat) (e num : Nat) (ty ky : Bool) (cs : List (Option Nat)) (i : Nat) : Prop :=
  ∃ a ad c, w.heap[e]? = some (.cells a 56 (0, 0)) ∧ a[1]? = some (.string (tyS ty)) ∧ a[4]? = some (.string (kyS ky)) ∧ a[7]? = some (.int .u32 num) ∧ a[9]? = some (.slice ad cs.length c) ∧
    cs.length ≤ 16 ∧ (∀ t j, cs.getD t none = some j → j < i) ∧ ∀ t, t < cs.length → ∃ b o, ad = some ⟨b, o, none⟩ ∧ tg b = 0 ∧ w.cell? ⟨b, o + t, none⟩ = some (.string (citeS (cs.getD t none)))
theorem EvMem.fr {S : Nat → Prop} {w w' : World} {tg tg' : Nat → Nat} {e num : Nat} {ty ky : Bool} {cs : List (Option Nat)} {i : Nat} (h : EvMem w tg e num ty ky cs i) (f : Fr S w tg w' tg') (h0 : ¬ S 0) (he : ¬ S (tg e)) : EvMem w' tg' e num ty ky cs i := by
  obtain ⟨a, ad, c, h1, h2, h3, h4, h5, h6, h7, h8⟩ := h
  refine ⟨a, ad, c, f.heap h1 he, h2, h3, h4, h5, h6, h7, fun t ht => ?_⟩
  obtain ⟨b, o, e1, e2, e3⟩ := h8 t ht
  exact ⟨b, o, e1, (f.tag b (World.block_lt_of_cell? w _ e3)).trans e2, f.cell e3 (by show ¬ S (tg b); rw [e2]; exact h0)⟩
theorem EvMem.mono {w : World} {tg : Nat → Nat} {e num : Nat} {ty ky : Bool} {cs : List (Option Nat)} {i i' : Nat} (h : EvMem w tg e num ty ky cs i) (hi : i ≤ i') : EvMem w tg e num ty ky cs i' := by
  obtain ⟨a, ad, c, h1, h2, h3, h4, h5, h6, h7, h8⟩ := h
  exact ⟨a, ad, c, h1, h2, h3, h4, h5, h6, fun t j e => Nat.lt_of_lt_of_le (h7 t j e) hi, h8⟩
theorem EvMem.lt {w : World} {tg : Nat → Nat} {e num : Nat} {ty ky : Bool} {cs : List (Option Nat)} {i : Nat} (h : EvMem w tg e num ty ky cs i) : e < w.heap.size := by
  obtain ⟨a, ad, c, h1, _⟩ := h; exact (Array.getElem?_eq_some_iff.1 h1).1
theorem EvMem.cellAt {w : World} {e j : Nat} {a : Array Value} {v : Value} (h : w.heap[e]? = some (.cells a 56 (0, 0))) (hv : a[j]? = some v) : w.cell? ⟨e, j, none⟩ = some v := by
  rw [cell_of_row w e j a 56 (0, 0) h]; exact hv

/-- The jump leads past the parent. -/
def passG (G : PG) (k : Nat) : Bool := decide (G.par k ≠ 0 ∧ G.jmp k ≠ G.par k)
/-- A row of nodes (from 0) that is never written again. -/
def ReadsT (w : World) (tg : Nat → Nat) (v : Value) (K : List Nat) : Prop :=
  (v = .slice none 0 0 ∧ K = []) ∨ ∃ b c, v = .slice (some ⟨b, 0, none⟩) K.length c ∧ K.length ≤ c ∧ tg b = 0 ∧ b < w.heap.size ∧ ∀ j, j < K.length → w.cell? ⟨b, j, none⟩ = some (.int .u32 ((K.getD j 0 : Nat) + 1 : Int))
theorem ReadsT.fr {S : Nat → Prop} {w w' : World} {tg tg' : Nat → Nat} {v : Value} {K : List Nat} (h : ReadsT w tg v K) (f : Fr S w tg w' tg') (h0 : ¬ S 0) : ReadsT w' tg' v K := by
  rcases h with h | ⟨b, c, h1, hcl, h2, h3, h4⟩
  · exact Or.inl h
  · exact Or.inr ⟨b, c, h1, hcl, (f.tag b h3).trans h2, Nat.lt_of_lt_of_le h3 f.size, fun j hj => f.cell (h4 j hj) (by show ¬ S (tg b); rw [h2]; exact h0)⟩

/-- The map of the named rows. -/
def NamedMem (B0 : Nat) (w : World) (tg : Nat → Nat) (mp : Option Nat) (G : PG) (nm : Nat → List Nat) : Prop :=
  (mp = none ∧ ∀ k, k < G.n → passG G k = false) ∨ ∃ mb c f, mp = some mb ∧ tg mb = 10 ∧ B0 ≤ mb ∧ c ≤ G.n ∧ MapV w 45 .u32 mb c f ∧ (∀ k, G.n ≤ k → f ((k : Int) + 1) = none) ∧
    (∀ k, k < G.n → (passG G k = false → f ((k : Int) + 1) = none) ∧ (passG G k = true → ∃ v, f ((k : Int) + 1) = some v ∧ ReadsT w tg v (nm k)))
theorem NamedMem.fr {S : Nat → Prop} {B0 : Nat} {w w' : World} {tg tg' : Nat → Nat} {mp : Option Nat} {G : PG} {nm : Nat → List Nat} (h : NamedMem B0 w tg mp G nm) (f : Fr S w tg w' tg') (h0 : ¬ S 0) (h10 : ¬ S 10) : NamedMem B0 w' tg' mp G nm := by
  rcases h with h | ⟨mb, c, g, h1, h2, h3, h3c, h4, h4n, h5⟩
  · exact Or.inl h
  · refine Or.inr ⟨mb, c, g, h1, (f.tag mb h4.lt).trans h2, h3, h3c, h4.of (f.block mb h4.lt (by rw [h2]; exact h10)), h4n, fun k hk => ⟨(h5 k hk).1, fun q => ?_⟩⟩
    obtain ⟨v, e1, e2⟩ := (h5 k hk).2 q
    exact ⟨v, e1, e2.fr f h0⟩

/-- The graph's memory: g's block gB; nv: its slice of nodes; mp: its map of named rows; cv: the nodes' rows citedBy, which hold cb; cs: the nodes' cites, all below step i; nm: the named rows. -/
structure GI (B0 : Nat) (w : World) (tg : Nat → Nat) (gB : Nat) (nv : Value) (mp : Option Nat) (G : PG) (cv : Nat → Value) (cb : Nat → List Nat) (cs : Nat → List (Option Nat)) (i : Nat) (nm : Nat → List Nat) : Prop where
  wf : WF G
  gblk : ∃ a, w.heap[gB]? = some (.cells a 39 (0, 0)) ∧ a[0]? = some nv ∧ a[2]? = some (.map mp)
  gtag : tg gB = 2
  gbase : B0 ≤ gB
  nodes : RowF B0 w tg 6 49 6 nv G.n (nodeC G cv)
  cited : ∀ k, k < G.n → RowL B0 w tg (42 + 8 * k) (cv k) (cb k)
  evs : ∀ k, k < G.n → EvMem w tg (G.ev k) (k + 1) (G.ty k) (G.ky k) (cs k) i
  evt : ∀ k, k < G.n → tg (G.ev k) = 46 + 8 * k
  evb : ∀ k, k < G.n → B0 ≤ G.ev k
  named : NamedMem B0 w tg mp G nm
  nmlt : ∀ k, k < G.n → passG G k = true → (nm k).length ≤ 16 * (G.dep k - G.dep (G.jmp k - 1)) ∧ ∀ y ∈ nm k, y < k
section
variable {B0 : Nat} {w w' : World} {tg tg' : Nat → Nat} {gB : Nat} {nv : Value} {mp : Option Nat} {G : PG} {cv : Nat → Value} {cb : Nat → List Nat} {cs : Nat → List (Option Nat)} {i : Nat} {nm : Nat → List Nat}
theorem GI.fr {S : Nat → Prop} (h : GI B0 w tg gB nv mp G cv cb cs i nm) (f : Fr S w tg w' tg') (hS : ∀ T, S T → T ≠ 0 ∧ T ≠ 2 ∧ T ≠ 6 ∧ T ≠ 10 ∧ ∀ k, k < G.n → T ≠ 42 + 8 * k ∧ T ≠ 46 + 8 * k) : GI B0 w' tg' gB nv mp G cv cb cs i nm := by
  have h0 : ¬ S 0 := fun q => (hS _ q).1 rfl
  obtain ⟨a, a1, a2, a3⟩ := h.gblk
  refine ⟨h.wf, ⟨a, f.heap a1 (by rw [h.gtag]; exact fun q => (hS _ q).2.1 rfl), a2, a3⟩, (f.tagOf a1).trans h.gtag, h.gbase, h.nodes.fr f (fun q => (hS _ q).2.2.1 rfl), fun k hk => (h.cited k hk).fr f (fun q => ((hS _ q).2.2.2.2 k hk).1 rfl),
    fun k hk => (h.evs k hk).fr f h0 (by rw [h.evt k hk]; exact fun q => ((hS _ q).2.2.2.2 k hk).2 rfl), fun k hk => (f.tag _ (h.evs k hk).lt).trans (h.evt k hk), h.evb, h.named.fr f h0 (fun q => (hS _ q).2.2.2.1 rfl), h.nmlt⟩
theorem GI.inj (h : GI B0 w tg gB nv mp G cv cb cs i nm) {j k : Nat} (hj : j < G.n) (hk : k < G.n) (e : G.ev j = G.ev k) : j = k := by
  have h1 := h.evt j hj
  have h2 := h.evt k hk
  rw [e] at h1; omega
theorem GI.gmem (h : GI B0 w tg gB nv mp G cv cb cs i nm) (hn : 0 < G.n) : ∃ nb c, nv = .slice (some ⟨nb, 0, none⟩) G.n c ∧ GMem w gB nb c G ∧ tg nb = 6 ∧ B0 ≤ nb ∧ nb < w.heap.size ∧ G.n ≤ c := by
  obtain ⟨a, c, h1, hc, h2⟩ := h.nodes.form
  obtain ⟨nb, rfl, hb, hlt, ht, hcell, _⟩ := h2 hn
  obtain ⟨ga, a1, a2, a3⟩ := h.gblk
  refine ⟨nb, c, h1, ⟨?_, fun k hk => ?_, fun k hk => ?_, fun k hk => ?_, fun k hk => ?_, fun k hk => ?_, fun k hk => ?_, fun k hk => ?_⟩, ht, hb, hlt, hc⟩
  · rw [cell_of_row w gB 0 ga 39 (0, 0) a1, a2, h1]
  · rw [hcell _ (by omega), nodeC_0]
  · rw [hcell _ (by omega), nodeC_2]
  · rw [hcell _ (by omega), nodeC_3]
  · rw [hcell _ (by omega), nodeC_4]
  · obtain ⟨e, ad, c, e1, e2, e3, e4, _⟩ := h.evs k hk
    exact EvMem.cellAt e1 e4
  · obtain ⟨e, ad, c, e1, e2, e3, e4, _⟩ := h.evs k hk
    exact EvMem.cellAt e1 e2
  · obtain ⟨e, ad, c, e1, e2, e3, e4, _⟩ := h.evs k hk
    exact EvMem.cellAt e1 e3
end
end Go.Proofs.Ybulkxiu
