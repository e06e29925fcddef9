import Derived.Test.YbulkxiuAddR
namespace Go.Proofs.Ybulkxiu
open Go.RowKit
set_option maxRecDepth 100000

/-- The cells of the records: eleven each. -/
def recC (evp : Nat → Option Nat) (j : Nat) : Value :=
  if j % 11 = 0 then evV (evp (j / 11)) else if j % 11 = 1 then .int .u64 0 else if j % 11 = 2 then .int .u32 0 else if j % 11 = 3 then .int .u8 0 else if j % 11 = 4 then .int .u8 0 else if j % 11 = 5 then .bool false else if j % 11 = 6 then .bool false else if j % 11 = 7 then .int .u32 0 else if j % 11 = 8 then .int .u32 (3 * (j / 11) : Nat) else if j % 11 = 9 then .int .u32 (3 * (j / 11) + 3 : Nat) else .int .u32 (sameN (j / 11))
def idC (j : Nat) : Value := .int .u8 ((idN (j / 3)).getD (j % 3) 0)
theorem recC_at (evp : Nat → Option Nat) (k r : Nat) (hr : r < 11) : recC evp (k * 11 + r) = (if r = 0 then evV (evp k) else if r = 1 then .int .u64 0 else if r = 2 then .int .u32 0 else if r = 3 then .int .u8 0 else if r = 4 then .int .u8 0 else if r = 5 then .bool false else if r = 6 then .bool false else if r = 7 then .int .u32 0 else if r = 8 then .int .u32 (3 * k : Nat) else if r = 9 then .int .u32 (3 * k + 3 : Nat) else .int .u32 (sameN k)) := by
  unfold recC
  rw [show (k * 11 + r) % 11 = r by omega, show (k * 11 + r) / 11 = k by omega]
theorem recC_congr {evp evp' : Nat → Option Nat} {n : Nat} (h : ∀ j, j < n → evp j = evp' j) : ∀ j, j < n * 11 → recC evp j = recC evp' j := fun j hj => by
  unfold recC; rw [h (j / 11) (by omega)]

/-- The index, as the builder holds it. -/
structure XI (B0 : Nat) (w : World) (tg : Nat → Nat) (xB mb nmx i : Nat) (recsV idbV : Value) (evp : Nat → Option Nat) : Prop where
  blk : ∃ a, w.heap[xB]? = some (.cells a 69 (0, 0)) ∧ a.size = 4 ∧ a[0]? = some (.func (.func 9) #[] #[]) ∧ a[1]? = some (.map (some mb)) ∧ (0 < i → ∃ rb cr ib ci, a[2]? = some (.slice (some ⟨rb, 0, none⟩) 1 cr) ∧ a[3]? = some (.slice (some ⟨ib, 0, none⟩) 1 ci) ∧ w.cell? ⟨rb, 0, none⟩ = some recsV ∧ tg rb = 0 ∧ w.cell? ⟨ib, 0, none⟩ = some idbV ∧ tg ib = 0)
  tx : tg xB = 1
  bx : B0 ≤ xB
  recs : RowF B0 w tg 9 85 11 recsV i (recC evp)
  idb : RowF B0 w tg 13 5 1 idbV (3 * i) idC
  map : MapV w 77 .u64 mb nmx (slotF i)
  tm : tg mb = 5
  bm : B0 ≤ mb
  le : nmx ≤ i
theorem XI.fr {S : Nat → Prop} {B0 : Nat} {w w' : World} {tg tg' : Nat → Nat} {xB mb nmx i : Nat} {recsV idbV : Value} {evp : Nat → Option Nat} (h : XI B0 w tg xB mb nmx i recsV idbV evp) (f : Fr S w tg w' tg') (hS : ∀ T, S T → T ≠ 0 ∧ T ≠ 1 ∧ T ≠ 5 ∧ T ≠ 9 ∧ T ≠ 13) : XI B0 w' tg' xB mb nmx i recsV idbV evp := by
  obtain ⟨a, a1, a2, a3, a4, a5⟩ := h.blk
  refine ⟨⟨a, f.heap a1 (by rw [h.tx]; exact fun q => (hS _ q).2.1 rfl), a2, a3, a4, fun p => ?_⟩, (f.tagOf a1).trans h.tx, h.bx, h.recs.fr f (fun q => (hS _ q).2.2.2.1 rfl), h.idb.fr f (fun q => (hS _ q).2.2.2.2 rfl), h.map.of (f.block mb h.map.lt (by rw [h.tm]; exact fun q => (hS _ q).2.2.1 rfl)), (f.tag mb h.map.lt).trans h.tm, h.bm, h.le⟩
  obtain ⟨rb, cr, ib, ci, e1, e2, e3, e4, e5, e6⟩ := a5 p
  exact ⟨rb, cr, ib, ci, e1, e2, f.cell e3 (by show ¬ S (tg rb); rw [e4]; exact fun q => (hS _ q).1 rfl), (f.tag _ (World.block_lt_of_cell? w _ e3)).trans e4, f.cell e5 (by show ¬ S (tg ib); rw [e6]; exact fun q => (hS _ q).1 rfl), (f.tag _ (World.block_lt_of_cell? w _ e5)).trans e6⟩
theorem XI.mem {B0 : Nat} {w : World} {tg : Nat → Nat} {xB mb nmx i : Nat} {recsV idbV : Value} {evp : Nat → Option Nat} (h : XI B0 w tg xB mb nmx i recsV idbV evp) (hi : i ≤ 512) : ∃ rb cr db cd ib ci ab ca, XMem w xB rb cr db cd ib ci ab ca mb nmx i evp ∧ XTag tg xB rb db ib ab mb i := by
  obtain ⟨a, a1, a2, a3, a4, a5⟩ := h.blk
  have cx : ∀ j v, a[j]? = some v → w.cell? ⟨xB, j, none⟩ = some v := fun j v e => by rw [cell_of_row w xB j a 69 (0, 0) a1]; exact e
  by_cases hi0 : 0 < i
  · obtain ⟨rb, cr, ib, ci, e1, e2, e3, e4, e5, e6⟩ := a5 hi0
    obtain ⟨da, cd, d1, d2, d3⟩ := h.recs.form
    obtain ⟨db, rfl, _, _, dt, dc, _⟩ := d3 hi0
    obtain ⟨aa, ca, b1, b2, b3⟩ := h.idb.form
    obtain ⟨ab, rfl, _, _, bt, bc, _⟩ := b3 (by omega)
    rw [d1] at e3
    rw [b1] at e5
    have R : ∀ j, j < i → ∀ r, r < 11 → w.cell? ⟨db, j * 11 + r, none⟩ = some (recC evp (j * 11 + r)) := fun j hj r hr => dc _ (by omega)
    have R0 : ∀ j, j < i → w.cell? ⟨db, j * 11, none⟩ = some (recC evp (j * 11 + 0)) := fun j hj => dc _ (by omega)
    refine ⟨rb, cr, db, cd, ib, ci, ab, ca, ⟨hi, cx _ _ a3, cx _ _ a4, fun _ => cx _ _ e1, fun _ => e3, fun _ => cx _ _ e2, fun _ => e5, b2, ?_, ?_, ?_, ?_, ?_, ?_, ?_, ?_, ?_, ?_, ?_, ?_, h.map⟩, ⟨h.tx, h.tm, fun _ => e4, fun _ => dt, fun _ => e6, fun _ => bt⟩⟩
    · intro j hj; rw [R0 j hj, recC_at evp j 0 (by omega)]; rfl
    · intro j hj; rw [R j hj 1 (by omega), recC_at evp j 1 (by omega)]; rfl
    · intro j hj; rw [R j hj 2 (by omega), recC_at evp j 2 (by omega)]; rfl
    · intro j hj; rw [R j hj 3 (by omega), recC_at evp j 3 (by omega)]; rfl
    · intro j hj; rw [R j hj 4 (by omega), recC_at evp j 4 (by omega)]; rfl
    · intro j hj; rw [R j hj 5 (by omega), recC_at evp j 5 (by omega)]; rfl
    · intro j hj; rw [R j hj 6 (by omega), recC_at evp j 6 (by omega)]; rfl
    · intro j hj; rw [R j hj 7 (by omega), recC_at evp j 7 (by omega)]; rfl
    · intro j hj; rw [R j hj 8 (by omega), recC_at evp j 8 (by omega)]; rfl
    · intro j hj; rw [R j hj 9 (by omega), recC_at evp j 9 (by omega)]; rfl
    · intro j hj; rw [R j hj 10 (by omega), recC_at evp j 10 (by omega)]; rfl
    · intro j hj t ht
      rw [bc _ (by omega)]
      unfold idC
      rw [show (3 * j + t) / 3 = j by omega, show (3 * j + t) % 3 = t by omega]
  · refine ⟨0, 0, 0, 0, 0, 0, 0, 3 * i, ⟨hi, cx _ _ a3, cx _ _ a4, fun p => absurd p hi0, fun p => absurd p hi0, fun p => absurd p hi0, fun p => absurd p hi0, Nat.le_refl _, fun j hj => ?_, fun j hj => ?_, fun j hj => ?_, fun j hj => ?_, fun j hj => ?_, fun j hj => ?_, fun j hj => ?_, fun j hj => ?_, fun j hj => ?_, fun j hj => ?_, fun j hj => ?_, fun j hj => ?_, h.map⟩, ⟨h.tx, h.tm, fun p => absurd p hi0, fun p => absurd p hi0, fun p => absurd p hi0, fun p => absurd p hi0⟩⟩ <;> omega

/-- A row of numbers that is never written again. -/
def ReadsU (w : World) (tg : Nat → Nat) (v : Value) (l : List Nat) : Prop :=
  (v = .slice none 0 0 ∧ l = []) ∨ ∃ b c, v = .slice (some ⟨b, 0, none⟩) l.length c ∧ l.length ≤ c ∧ tg b = 0 ∧ b < w.heap.size ∧ ∀ j, j < l.length → w.cell? ⟨b, j, none⟩ = some (.int .u32 (l.getD j 0 : Nat))
theorem ReadsU.fr {S : Nat → Prop} {w w' : World} {tg tg' : Nat → Nat} {v : Value} {K : List Nat} (h : ReadsU w tg v K) (f : Fr S w tg w' tg') (h0 : ¬ S 0) : ReadsU w' tg' v K := by
  rcases h with h | ⟨b, c, h1, hc, h2, h3, h4⟩
  · exact Or.inl h
  · exact Or.inr ⟨b, c, h1, hc, (f.tag b h3).trans h2, Nat.lt_of_lt_of_le h3 f.size, fun j hj => f.cell (h4 j hj) (by show ¬ S (tg b); rw [h2]; exact h0)⟩
/-- The five slices of the model. -/
structure MVs where
  eV : Value
  pV : Value
  dV : Value
  oV : Value
  cV : Value
def evC (G : PG) (j : Nat) : Value := .pointer (some ⟨G.ev j, 0, none⟩)
def parC (G : PG) (j : Nat) : Value := .int .u32 (G.par j)
def depC (G : PG) (j : Nat) : Value := .int .u32 (G.dep j)
/-- The model's memory. -/
structure MI (B0 : Nat) (w : World) (tg : Nat → Nat) (mB : Nat) (V : MVs) (G : PG) (cvm : Nat → Value) (cbm : Nat → List Nat) (ovm : Nat → Value) (own : Nat → List Nat) : Prop where
  blk : ∃ a, w.heap[mB]? = some (.cells a 44 (0, 0)) ∧ a.size = 5 ∧ a[0]? = some V.eV ∧ a[1]? = some V.pV ∧ a[2]? = some V.dV ∧ a[3]? = some V.oV ∧ a[4]? = some V.cV
  tm : tg mB = 3
  bm : B0 ≤ mB
  evs : RowF B0 w tg 7 47 1 V.eV G.n (evC G)
  par : RowF B0 w tg 11 45 1 V.pV G.n (parC G)
  dep : RowF B0 w tg 15 45 1 V.dV G.n (depC G)
  ownr : RowF B0 w tg 19 41 1 V.oV G.n ovm
  cbr : RowF B0 w tg 23 41 1 V.cV G.n cvm
  cited : ∀ k, k < G.n → RowL B0 w tg (43 + 8 * k) (cvm k) (cbm k)
  owns : ∀ k, k < G.n → ReadsU w tg (ovm k) (own k)
theorem MI.fr {S : Nat → Prop} {B0 : Nat} {w w' : World} {tg tg' : Nat → Nat} {mB : Nat} {V : MVs} {G : PG} {cvm : Nat → Value} {cbm : Nat → List Nat} {ovm : Nat → Value} {own : Nat → List Nat} (h : MI B0 w tg mB V G cvm cbm ovm own) (f : Fr S w tg w' tg') (hS : ∀ T, S T → T ≠ 0 ∧ T % 4 ≠ 3) : MI B0 w' tg' mB V G cvm cbm ovm own := by
  obtain ⟨a, a1, a2⟩ := h.blk
  exact ⟨⟨a, f.heap a1 (by rw [h.tm]; exact fun q => (hS _ q).2 rfl), a2⟩, (f.tagOf a1).trans h.tm, h.bm, h.evs.fr f (fun q => (hS _ q).2 rfl), h.par.fr f (fun q => (hS _ q).2 rfl), h.dep.fr f (fun q => (hS _ q).2 rfl), h.ownr.fr f (fun q => (hS _ q).2 rfl), h.cbr.fr f (fun q => (hS _ q).2 rfl), fun k hk => (h.cited k hk).fr f (fun q => (hS _ q).2 (by omega)), fun k hk => (h.owns k hk).fr f (fun q => (hS _ q).1 rfl)⟩
/-- One citer more of node q, in the model. -/
theorem MI.cite {B0 : Nat} {w : World} {tg : Nat → Nat} {mB : Nat} {V : MVs} {G : PG} {cvm : Nat → Value} {cbm : Nat → List Nat} {ovm : Nat → Value} {own : Nat → List Nat} (h : MI B0 w tg mB V G cvm cbm ovm own) {q : Nat} (hq : q < G.n) {w2 : World} {tg2 : Nat → Nat} {v' : Value} {x : Nat} (f : Fr (fun T => T = 43 + 8 * q) w tg w2 tg2) (row : RowL B0 w2 tg2 (43 + 8 * q) v' (cbm q ++ [x])) {cB cap : Nat} (hV : V.cV = .slice (some ⟨cB, 0, none⟩) G.n cap) :
    MI B0 (w2.setCell ⟨cB, q, none⟩ v') tg2 mB V G (upd cvm q v') (upd cbm q (cbm q ++ [x])) ovm own ∧ Fr (fun T => T % 4 = 3) w tg (w2.setCell ⟨cB, q, none⟩ v') tg2 := by
  have ht : tg cB = 23 := by obtain ⟨xs, _, _, h3⟩ := h.cbr; exact h3 cB (by rw [hV]; rfl)
  have hnb : cB < w.heap.size := by obtain ⟨xs, h1, _, _⟩ := h.cbr; exact (h1.lt cB (by rw [hV]; rfl)).2
  have f2 : Fr (fun T => T = 23) w2 tg2 (w2.setCell ⟨cB, q, none⟩ v') tg2 := Fr.of_set _ _ _ _ ((f.tag cB hnb).trans ht)
  have F : Fr (fun T => T = 43 + 8 * q ∨ T = 23) w tg (w2.setCell ⟨cB, q, none⟩ v') tg2 := (f.mono fun _ h => Or.inl h).trans (f2.mono fun _ h => Or.inr h)
  obtain ⟨a, a1, a2⟩ := h.blk
  refine ⟨⟨⟨a, F.heap a1 (by rw [h.tm]; omega), a2⟩, (F.tagOf a1).trans h.tm, h.bm, h.evs.fr F (by omega), h.par.fr F (by omega), h.dep.fr F (by omega), h.ownr.fr F (by omega), ?_, fun k hk => ?_, fun k hk => (h.owns k hk).fr F (by omega)⟩, F.mono fun _ q => by omega⟩
  · have r := h.cbr.fr f (show ¬ (23 = 43 + 8 * q) by omega)
    rw [hV] at r ⊢
    exact r.set q v' (by omega) _ fun j hj => rfl
  · by_cases e : k = q
    · subst e
      rw [upd_same, upd_same]
      exact row.fr f2 (show ¬ (43 + 8 * k = 23) by omega)
    · rw [upd_other _ _ _ e, upd_other _ _ _ e]
      exact (h.cited k hk).fr F (by omega)

/-- The builder's two rows over the steps. -/
def seC (evp : Nat → Option Nat) (nd : Nat → Nat) (i j : Nat) : Value := if j < i ∧ nd j ≠ 0 then evV (evp j) else .pointer none
def noC (nd : Nat → Nat) (i j : Nat) : Value := if j < i then .int .u32 (nd j) else .int .u32 0
structure LI (B0 : Nat) (w : World) (tg : Nat → Nat) (sE nO tyB kyB len i : Nat) (evp : Nat → Option Nat) (nd : Nat → Nat) : Prop where
  se : RowF B0 w tg 21 47 1 (.slice (some ⟨sE, 0, none⟩) len len) len (seC evp nd i)
  no : RowF B0 w tg 25 45 1 (.slice (some ⟨nO, 0, none⟩) len len) len (noC nd i)
  t0 : w.cell? ⟨tyB, 0, none⟩ = some (.string (tyS false))
  t1 : w.cell? ⟨tyB, 1, none⟩ = some (.string (tyS true))
  k0 : w.cell? ⟨kyB, 0, none⟩ = some (.string (kyS false))
  k1 : w.cell? ⟨kyB, 1, none⟩ = some (.string (kyS true))
  tt : tg tyB = 0
  tk : tg kyB = 0
theorem LI.fr {S : Nat → Prop} {B0 : Nat} {w w' : World} {tg tg' : Nat → Nat} {sE nO tyB kyB len i : Nat} {evp : Nat → Option Nat} {nd : Nat → Nat} (h : LI B0 w tg sE nO tyB kyB len i evp nd) (f : Fr S w tg w' tg') (hS : ∀ T, S T → T ≠ 0 ∧ T ≠ 21 ∧ T ≠ 25) : LI B0 w' tg' sE nO tyB kyB len i evp nd := by
  have h0 : ¬ S 0 := fun q => (hS _ q).1 rfl
  exact ⟨h.se.fr f (fun q => (hS _ q).2.1 rfl), h.no.fr f (fun q => (hS _ q).2.2 rfl), f.cell h.t0 (by show ¬ S (tg tyB); rw [h.tt]; exact h0), f.cell h.t1 (by show ¬ S (tg tyB); rw [h.tt]; exact h0), f.cell h.k0 (by show ¬ S (tg kyB); rw [h.tk]; exact h0), f.cell h.k1 (by show ¬ S (tg kyB); rw [h.tk]; exact h0), (f.tag _ (World.block_lt_of_cell? w _ h.t0)).trans h.tt, (f.tag _ (World.block_lt_of_cell? w _ h.k0)).trans h.tk⟩
end Go.Proofs.Ybulkxiu
