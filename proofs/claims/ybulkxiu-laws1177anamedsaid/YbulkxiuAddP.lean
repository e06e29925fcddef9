import Derived.Test.YbulkxiuNamed
namespace Go.Proofs.Ybulkxiu
open Go.RowKit
set_option maxRecDepth 100000

def upd {α : Type} (f : Nat → α) (k : Nat) (x : α) : Nat → α := fun j => if j = k then x else f j
theorem upd_same {α : Type} (f : Nat → α) (k : Nat) (x : α) : upd f k x k = x := if_pos rfl
theorem upd_other {α : Type} (f : Nat → α) (k : Nat) (x : α) {j : Nat} (h : j ≠ k) : upd f k x j = f j := if_neg h
/-- The parent: the last cite of the pair's own. -/
def parStep (G : PG) (ty ky : Bool) (p c : Nat) : Nat := if c ≠ 0 ∧ G.ty (c - 1) = ty ∧ G.ky (c - 1) = ky then c else p
def parL (G : PG) (ty ky : Bool) (N : List Nat) : Nat := N.foldl (parStep G ty ky) 0
def cbStep (x : Nat) (cb : Nat → List Nat) (c : Nat) : Nat → List Nat := if c = 0 then cb else upd cb (c - 1) (cb (c - 1) ++ [x])
def cbL (x : Nat) (cb : Nat → List Nat) (N : List Nat) : Nat → List Nat := N.foldl (cbStep x) cb
theorem parL_snoc (G : PG) (ty ky : Bool) (N : List Nat) (c : Nat) : parL G ty ky (N ++ [c]) = parStep G ty ky (parL G ty ky N) c := by unfold parL; rw [List.foldl_append]; rfl
theorem cbL_snoc (x : Nat) (cb : Nat → List Nat) (N : List Nat) (c : Nat) : cbL x cb (N ++ [c]) = cbStep x (cbL x cb N) c := by unfold cbL; rw [List.foldl_append]; rfl
theorem parFold_le (G : PG) (ty ky : Bool) (b : Nat) : ∀ (N : List Nat) (p : Nat), p ≤ b → (∀ c ∈ N, c ≤ b) → N.foldl (parStep G ty ky) p ≤ b
  | [], p, hp, _ => hp
  | c :: N, p, hp, h => parFold_le G ty ky b N _ (by unfold parStep; split; exact h c (by simp); exact hp) (fun d hd => h d (by simp [hd]))
theorem parL_le (G : PG) (ty ky : Bool) (b : Nat) (N : List Nat) (h : ∀ c ∈ N, c ≤ b) : parL G ty ky N ≤ b := parFold_le G ty ky b N 0 (Nat.zero_le _) h
theorem cbFold_len (x : Nat) : ∀ (N : List Nat) (cb : Nat → List Nat) (b : Nat), (∀ k, (cb k).length ≤ b) → ∀ k, (N.foldl (cbStep x) cb k).length ≤ b + N.length
  | [], cb, b, h, k => h k
  | c :: N, cb, b, h, k => by
    have := cbFold_len x N (cbStep x cb c) (b + 1) (fun j => by
      unfold cbStep; split
      · have := h j; omega
      · unfold upd; split
        · simp; exact h _
        · have := h j; omega) k
    simp only [List.foldl_cons, List.length_cons]; omega
theorem cbL_len (x : Nat) (N : List Nat) (cb : Nat → List Nat) (b : Nat) (h : ∀ k, (cb k).length ≤ b) (k : Nat) : (cbL x cb N k).length ≤ b + N.length := cbFold_len x N cb b h k
theorem cbFold_far (x : Nat) (n : Nat) : ∀ (N : List Nat) (cb : Nat → List Nat), (∀ c ∈ N, c ≤ n) → ∀ k, n ≤ k → N.foldl (cbStep x) cb k = cb k
  | [], cb, _, k, _ => rfl
  | c :: N, cb, h, k, hk => by
    simp only [List.foldl_cons]
    rw [cbFold_far x n N _ (fun d hd => h d (by simp [hd])) k hk]
    unfold cbStep; split
    · rfl
    · exact upd_other _ _ _ (by have := h c (by simp); omega)

def jmpOf (G : PG) (p : Nat) : Nat := if p = 0 then G.n + 1 else if G.dep (p - 1) - G.dep (G.jmp (p - 1) - 1) = G.dep (G.jmp (p - 1) - 1) - G.dep (G.jmp (G.jmp (p - 1) - 1) - 1) then G.jmp (G.jmp (p - 1) - 1) else p
def depOf (G : PG) (p : Nat) : Nat := if p = 0 then 0 else G.dep (p - 1) + 1
/-- The graph with one node more. -/
def addG (G : PG) (e : Nat) (ty ky : Bool) (p : Nat) : PG :=
  { n := G.n + 1, ev := upd G.ev G.n e, ty := upd G.ty G.n ty, ky := upd G.ky G.n ky, par := upd G.par G.n p, dep := upd G.dep G.n (depOf G p), jmp := upd G.jmp G.n (jmpOf G p) }
theorem st_le {G : PG} (h : WF G) {a : Nat} (ha : a ≤ G.n) : st G a ≤ G.n := by
  unfold st; split
  · omega
  · by_cases hp : G.par (a - 1) = 0
    · omega
    · have := (h.kid (a - 1) (by omega) hp).1; omega
theorem st_add (G : PG) (e : Nat) (ty ky : Bool) (p : Nat) {a : Nat} (ha : a ≤ G.n) : st (addG G e ty ky p) a = st G a := by
  unfold st; split
  · rfl
  · exact upd_other _ _ _ (by omega)
theorem upN_addG {G : PG} (h : WF G) (e : Nat) (ty ky : Bool) (p : Nat) : ∀ t a, a ≤ G.n → upN (addG G e ty ky p) t a = upN G t a
  | 0, _, _ => rfl
  | t + 1, a, ha => by
    show upN (addG G e ty ky p) t (st (addG G e ty ky p) a) = upN G t (st G a)
    rw [st_add G e ty ky p ha]
    exact upN_addG h e ty ky p t _ (st_le h ha)
/-- What the jump of a node is that has a parent: either the parent, or by way of it. -/
theorem jmp_up {G : PG} (h : WF G) {p : Nat} (hp : p ≠ 0) (hpn : p ≤ G.n) : ∃ t, t ≤ G.dep (p - 1) ∧ upN G t p = jmpOf G p := by
  unfold jmpOf
  rw [if_neg hp]
  split
  · rename_i hc
    by_cases hr : G.par (p - 1) = 0
    · obtain ⟨r1, r2⟩ := h.root (p - 1) (by omega) hr
      refine ⟨0, Nat.zero_le _, ?_⟩
      rw [r2, show p - 1 + 1 - 1 = p - 1 by omega, r2]
      show p = _; omega
    · obtain ⟨k1, k2, t, t1, t2, t3⟩ := h.kid (p - 1) (by omega) hr
      obtain ⟨j, j1, j2, j3⟩ := h.up t (p - 1) (by omega) t2
      have hj : G.jmp (p - 1) = j + 1 := t3.symm.trans j1
      rw [hj] at hc ⊢
      rw [Nat.add_sub_cancel] at hc ⊢
      by_cases hs : G.par j = 0
      · obtain ⟨r1, r2⟩ := h.root j (by omega) hs
        rw [r2, Nat.add_sub_cancel] at hc
        omega
      · obtain ⟨_, _, u, u1, u2, u3⟩ := h.kid j (by omega) hs
        refine ⟨t + u, by omega, ?_⟩
        rw [upN_add, show p = p - 1 + 1 by omega, j1, u3]
  · exact ⟨0, Nat.zero_le _, rfl⟩
theorem WF.add {G : PG} (h : WF G) (e : Nat) (ty ky : Bool) (p : Nat) (hp : p ≤ G.n) (hn : G.n + 1 ≤ 512) : WF (addG G e ty ky p) := by
  refine ⟨hn, fun k hk h0 => ?_, fun k hk h0 => ?_⟩
  · by_cases e1 : k = G.n
    · subst e1
      have hp0 : p = 0 := by have := h0; simp only [addG, upd_same] at this; exact this
      simp only [addG, upd_same, depOf, jmpOf, hp0, if_true, and_self]
    · have hk' : k < G.n := by simp only [addG] at hk; omega
      simp only [addG, upd_other _ _ _ e1] at h0 ⊢
      exact h.root k hk' h0
  · by_cases e1 : k = G.n
    · subst e1
      have hp0 : p ≠ 0 := by have := h0; simp only [addG, upd_same] at this; exact this
      have h1 : (addG G e ty ky p).par G.n = p := upd_same _ _ _
      have h2 : (addG G e ty ky p).dep G.n = G.dep (p - 1) + 1 := by simp only [addG, upd_same, depOf, if_neg hp0]
      have h3 : (addG G e ty ky p).dep (p - 1) = G.dep (p - 1) := upd_other _ _ _ (by omega)
      have h4 : (addG G e ty ky p).jmp G.n = jmpOf G p := upd_same _ _ _
      rw [h1, h2, h3, h4]
      obtain ⟨t, t1, t2⟩ := jmp_up h hp0 hp
      refine ⟨hp, rfl, t + 1, by omega, by omega, ?_⟩
      show upN (addG G e ty ky p) t (st (addG G e ty ky p) (G.n + 1)) = _
      rw [show st (addG G e ty ky p) (G.n + 1) = p by unfold st; rw [if_neg (by omega), Nat.add_sub_cancel]; exact h1, upN_addG h e ty ky p t p hp, t2]
    · have hk' : k < G.n := by simp only [addG] at hk; omega
      have h1 : (addG G e ty ky p).par k = G.par k := upd_other _ _ _ e1
      have h2 : (addG G e ty ky p).dep k = G.dep k := upd_other _ _ _ e1
      have h4 : (addG G e ty ky p).jmp k = G.jmp k := upd_other _ _ _ e1
      rw [h1] at h0
      obtain ⟨k1, k2, t, t1, t2, t3⟩ := h.kid k hk' h0
      rw [h1, h2, h4, show (addG G e ty ky p).dep (G.par k - 1) = G.dep (G.par k - 1) from upd_other _ _ _ (by omega)]
      exact ⟨k1, k2, t, t1, t2, by rw [upN_addG h e ty ky p t (k + 1) (by omega)]; exact t3⟩
theorem passG_old (G : PG) (e : Nat) (ty ky : Bool) (p : Nat) {k : Nat} (hk : k < G.n) : passG (addG G e ty ky p) k = passG G k := by
  unfold passG
  rw [show (addG G e ty ky p).par k = G.par k from upd_other _ _ _ (by omega), show (addG G e ty ky p).jmp k = G.jmp k from upd_other _ _ _ (by omega)]
theorem passG_new (G : PG) (e : Nat) (ty ky : Bool) (p : Nat) : passG (addG G e ty ky p) G.n = decide (p ≠ 0 ∧ jmpOf G p ≠ p) := by
  unfold passG
  rw [show (addG G e ty ky p).par G.n = p from upd_same _ _ _, show (addG G e ty ky p).jmp G.n = jmpOf G p from upd_same _ _ _]

section
variable {B0 : Nat} {w : World} {tg : Nat → Nat} {gB : Nat} {nv : Value} {mp : Option Nat} {G : PG} {cv : Nat → Value} {cb : Nat → List Nat} {cs : Nat → List (Option Nat)} {i : Nat} {nm : Nat → List Nat}
/-- One citer more of node c. -/
theorem GI.cite (g : GI B0 w tg gB nv mp G cv cb cs i nm) {c : Nat} (hc : c < G.n) {w2 : World} {tg2 : Nat → Nat} {v' : Value} {x : Nat} (f : Fr (fun T => T = 42 + 8 * c) w tg w2 tg2) (row : RowL B0 w2 tg2 (42 + 8 * c) v' (cb c ++ [x])) {nb cap : Nat} (hnv : nv = .slice (some ⟨nb, 0, none⟩) G.n cap) :
    GI B0 (w2.setCell ⟨nb, c * 6 + 1, none⟩ v') tg2 gB nv mp G (upd cv c v') (upd cb c (cb c ++ [x])) cs i nm := by
  have ht : tg nb = 6 := by obtain ⟨xs, _, _, h3⟩ := g.nodes; exact h3 nb (by rw [hnv]; rfl)
  have hnb : nb < w.heap.size := by obtain ⟨xs, h1, _, _⟩ := g.nodes; exact (h1.lt nb (by rw [hnv]; rfl)).2
  have ht2 : tg2 nb = 6 := (f.tag nb hnb).trans ht
  have f2 : Fr (fun T => T = 6) w2 tg2 (w2.setCell ⟨nb, c * 6 + 1, none⟩ v') tg2 := Fr.of_set _ _ _ _ ht2
  have F : Fr (fun T => T = 42 + 8 * c ∨ T = 6) w tg (w2.setCell ⟨nb, c * 6 + 1, none⟩ v') tg2 := (f.mono fun _ h => Or.inl h).trans (f2.mono fun _ h => Or.inr h)
  have h0 : ¬ ((0 : Nat) = 42 + 8 * c ∨ (0 : Nat) = 6) := by omega
  obtain ⟨a, a1, a2, a3⟩ := g.gblk
  refine ⟨g.wf, ⟨a, F.heap a1 (by rw [g.gtag]; omega), a2, a3⟩, (F.tagOf a1).trans g.gtag, g.gbase, ?_, fun k hk => ?_, fun k hk => (g.evs k hk).fr F h0 (by rw [g.evt k hk]; omega), fun k hk => (F.tag _ (g.evs k hk).lt).trans (g.evt k hk), g.evb, g.named.fr F h0 (by omega), g.nmlt⟩
  · have r := g.nodes.fr f (show ¬ (6 = 42 + 8 * c) by omega)
    rw [hnv] at r ⊢
    refine r.set (c * 6 + 1) v' (by omega) _ fun j hj => ?_
    by_cases e : j = c * 6 + 1
    · rw [if_pos e, e, nodeC_1, upd_same]
    · rw [if_neg e]
      unfold nodeC
      by_cases e2 : j % 6 = 1
      · rw [if_neg (by omega), if_pos e2, if_neg (by omega), if_pos e2, upd_other _ _ _ (by omega)]
      · simp only [if_neg e2]
  · by_cases e : k = c
    · subst e
      rw [upd_same, upd_same]
      exact row.fr f2 (show ¬ (42 + 8 * k = 6) by omega)
    · rw [upd_other _ _ _ e, upd_other _ _ _ e]
      exact (g.cited k hk).fr F (by omega)
end
end Go.Proofs.Ybulkxiu
