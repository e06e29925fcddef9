import Derived.Test.YbulkxiuLe
namespace Go.Proofs.Ybulkxiu
open Go.RowKit
set_option maxRecDepth 100000
theorem neqPtr_same (e : Nat) (w : World) : (binOp .neq 47 (.pointer (some ⟨e, 0, none⟩)) (.pointer (some ⟨e, 0, none⟩))).run Yba.prog w = .ok (.bool false) w := by
  have h := size56
  cases hi : Yba.prog.info? 56 with
  | none => rw [hi] at h; cases h
  | some i =>
    have h1 : ∀ d : Nat, (Op.equalIn (d + 1) 47 (.pointer (some ⟨e, 0, none⟩)) (.pointer (some ⟨e, 0, none⟩))).run Yba.prog w = .ok true w := fun d => by
      simp [Op.equalIn, run_underlying Yba.underlying47, sizeOf, typeInfo, hi, run_sameAddr_same]
    simp only [binOp]
    simp [Op.equal, Op.maxDepth, h1 9999]
/-- What the laws read of the graph and of the model. -/
structure LF (W : World) (F : Fx) (s : GS) (nb cn eb ec pb pc db dc ob oc cB cC : Nat) : Prop where
  wf : WF s.G
  g0 : W.cell? ⟨F.gB, 0, none⟩ = some (.slice (some ⟨nb, 0, none⟩) s.G.n cn)
  g2 : W.cell? ⟨F.gB, 2, none⟩ = some (.map s.mp)
  n0 : ∀ k, k < s.G.n → W.cell? ⟨nb, k * 6, none⟩ = some (.pointer (some ⟨s.G.ev k, 0, none⟩))
  n1 : ∀ k, k < s.G.n → W.cell? ⟨nb, k * 6 + 1, none⟩ = some (s.cv k)
  n2 : ∀ k, k < s.G.n → W.cell? ⟨nb, k * 6 + 2, none⟩ = some (.int .u32 (s.G.par k))
  n3 : ∀ k, k < s.G.n → W.cell? ⟨nb, k * 6 + 3, none⟩ = some (.int .u32 (s.G.dep k))
  n4 : ∀ k, k < s.G.n → W.cell? ⟨nb, k * 6 + 4, none⟩ = some (.int .u32 (s.G.jmp k))
  e1 : ∀ k, k < s.G.n → W.cell? ⟨s.G.ev k, 1, none⟩ = some (.string (tyS (s.G.ty k)))
  e4 : ∀ k, k < s.G.n → W.cell? ⟨s.G.ev k, 4, none⟩ = some (.string (kyS (s.G.ky k)))
  e7 : ∀ k, k < s.G.n → W.cell? ⟨s.G.ev k, 7, none⟩ = some (.int .u32 ((k : Int) + 1))
  m0 : W.cell? ⟨F.mB, 0, none⟩ = some (.slice (some ⟨eb, 0, none⟩) s.G.n ec)
  me : ∀ k, k < s.G.n → W.cell? ⟨eb, k, none⟩ = some (.pointer (some ⟨s.G.ev k, 0, none⟩))
  m1 : W.cell? ⟨F.mB, 1, none⟩ = some (.slice (some ⟨pb, 0, none⟩) s.G.n pc)
  mp : ∀ k, k < s.G.n → W.cell? ⟨pb, k, none⟩ = some (.int .u32 (s.G.par k))
  m2 : W.cell? ⟨F.mB, 2, none⟩ = some (.slice (some ⟨db, 0, none⟩) s.G.n dc)
  md : ∀ k, k < s.G.n → W.cell? ⟨db, k, none⟩ = some (.int .u32 (s.G.dep k))
  m3 : W.cell? ⟨F.mB, 3, none⟩ = some (.slice (some ⟨ob, 0, none⟩) s.G.n oc)
  mo : ∀ k, k < s.G.n → W.cell? ⟨ob, k, none⟩ = some (s.ovm k)
  m4 : W.cell? ⟨F.mB, 4, none⟩ = some (.slice (some ⟨cB, 0, none⟩) s.G.n cC)
  mc : ∀ k, k < s.G.n → W.cell? ⟨cB, k, none⟩ = some (s.cvm k)
  r1 : ∀ k, k < s.G.n → RdL W (s.cv k) (s.cb k)
  r2 : ∀ k, k < s.G.n → RdL W (s.cvm k) (s.cb k)
  ro : ∀ k, k < s.G.n → ReadsU W s.tg (s.ovm k) (s.own k)
  cb : ∀ k, (s.cb k).length ≤ 1000000
  nam : NamedMem F.B0 W s.tg s.mp s.G s.nm
theorem LF.drewN {W : World} {F : Fx} {s : GS} {nb cn eb ec pb pc db dc ob oc cB cC : Nat} (h : LF W F s nb cn eb ec pb pc db dc ob oc cB cC) (q : Nat) : LF (W.drewN q) F s nb cn eb ec pb pc db dc ob oc cB cC :=
  have f : Fr (fun _ => False) W s.tg (W.drewN q) s.tg := ⟨rfl, rfl, rfl, Nat.le_refl _, fun _ _ => rfl, fun _ _ _ => rfl⟩
  ⟨h.wf, h.g0, h.g2, h.n0, h.n1, h.n2, h.n3, h.n4, h.e1, h.e4, h.e7, h.m0, h.me, h.m1, h.mp, h.m2, h.md, h.m3, h.mo, h.m4, h.mc, h.r1, h.r2, fun k hk => (h.ro k hk).fr f (fun q => q), h.cb, h.nam.fr f (fun q => q) (fun q => q)⟩
theorem row_at {B0 : Nat} {w : World} {tg : Nat → Nat} {T e : Nat} {v : Value} {n : Nat} {f : Nat → Value} (h : RowF B0 w tg T e 1 v n f) (hn : 0 < n) : ∃ b c, v = .slice (some ⟨b, 0, none⟩) n c ∧ ∀ k, k < n → w.cell? ⟨b, k, none⟩ = some (f k) := by
  obtain ⟨a, c, h1, _, h3⟩ := h.form
  obtain ⟨b, rfl, _, _, _, h4, _⟩ := h3 hn
  exact ⟨b, c, h1, fun k hk => h4 k (by omega)⟩
theorem BI.lf {F : Fx} {w0 : World} {s : GS} {i : Nat} {W : World} (h : BI F w0 s i W) (hn : 0 < s.G.n) : ∃ nb cn eb ec pb pc db dc ob oc cB cC, LF W F s nb cn eb ec pb pc db dc ob oc cB cC := by
  obtain ⟨nb, cn, hnv, M, _⟩ := h.g.gmem hn
  obtain ⟨ga, g1, g2, g3⟩ := h.g.gblk
  obtain ⟨a, a1, a2, a3, a4, a5, a6, a7⟩ := h.m.blk
  obtain ⟨eb, ec, x1, x2⟩ := row_at h.m.evs hn
  obtain ⟨pb, pc, y1, y2⟩ := row_at h.m.par hn
  obtain ⟨db, dc, z1, z2⟩ := row_at h.m.dep hn
  obtain ⟨ob, oc, u1, u2⟩ := row_at h.m.ownr hn
  obtain ⟨cB, cC, v1, v2⟩ := row_at h.m.cbr hn
  have cm : ∀ j v, a[j]? = some v → W.cell? ⟨F.mB, j, none⟩ = some v := fun j v e => by rw [cell_of_row W F.mB j a 44 (0, 0) a1]; exact e
  refine ⟨nb, cn, eb, ec, pb, pc, db, dc, ob, oc, cB, cC, h.g.wf, M.g0, ?_, M.ev, fun k hk => ?_, M.par, M.dep, M.jmp, M.ty, M.ky, M.nd, ?_, x2, ?_, y2, ?_, z2, ?_, u2, ?_, v2, fun k hk => RowF.rdl (h.g.cited k hk), fun k hk => RowF.rdl (h.m.cited k hk), h.m.owns, fun k => Nat.le_trans (h.cb16 k) (by have := h.il; have := h.len; omega), h.g.named⟩
  · rw [cell_of_row W F.gB 2 ga 39 (0, 0) g1]; exact g3
  · obtain ⟨ad, c, q1, _, q2⟩ := h.g.nodes.form
    obtain ⟨b, rfl, _, _, _, q3, _⟩ := q2 hn
    have e : b = nb := by have := q1.symm.trans hnv; simp at this; exact this.1
    rw [← e, q3 _ (by omega), nodeC_1]
  · exact cm _ _ (by rw [a3, x1])
  · exact cm _ _ (by rw [a4, y1])
  · exact cm _ _ (by rw [a5, z1])
  · exact cm _ _ (by rw [a6, u1])
  · exact cm _ _ (by rw [a7, v1])
/-- The lengths alone: also where there is no node. -/
theorem BI.lens {F : Fx} {w0 : World} {s : GS} {i : Nat} {W : World} (h : BI F w0 s i W) : ∃ na nc ea ec, W.cell? ⟨F.gB, 0, none⟩ = some (.slice na s.G.n nc) ∧ W.cell? ⟨F.mB, 0, none⟩ = some (.slice ea s.G.n ec) := by
  obtain ⟨na, nc, h1, _⟩ := h.g.nodes.form
  obtain ⟨ga, g1, g2, _⟩ := h.g.gblk
  obtain ⟨ea, ec, h2, _⟩ := h.m.evs.form
  obtain ⟨a, a1, _, a3, _⟩ := h.m.blk
  exact ⟨na, nc, ea, ec, by rw [cell_of_row W F.gB 0 ga 39 (0, 0) g1, g2, h1], by rw [cell_of_row W F.mB 0 a 44 (0, 0) a1, a3, h2]⟩
/-- Has the named map a row of the node? -/
theorem LF.has {W : World} {F : Fx} {s : GS} {nb cn eb ec pb pc db dc ob oc cB cC : Nat} (h : LF W F s nb cn eb ec pb pc db dc ob oc cB cC) {k : Nat} (hk : k < s.G.n) : ∃ v, (Instr.lookup 29 (.map s.mp) (.int .u32 ((k : Int) + 1)) true).run Yba.prog W = .ok (.tuple #[v, .bool (passG s.G k)]) W ∧ (Instr.lookup 29 (.map s.mp) (.int .u32 ((k : Int) + 1)) false).run Yba.prog W = .ok v W ∧ (passG s.G k = true → ReadsT W s.tg v (s.nm k)) := by
  have hsm := h.wf.small
  have hwf : (Lit.int .u32 ((k : Int) + 1)).wf = true := by
    simp only [Lit.wf, Bool.and_eq_true, decide_eq_true_eq]
    exact ⟨by show (0 : Int) ≤ _; omega, by show _ ≤ (4294967295 : Int); omega⟩
  rcases h.nam with ⟨h1, h2⟩ | ⟨mb, c, f, h1, _, _, _, h5, _, h7⟩
  · rw [h1, h2 k hk]
    exact ⟨.slice none 0 0, rfl, rfl, fun q => by cases q⟩
  · rw [h1]
    have l1 := h5.look_ok Yba.underlying45 Yba.underlying29 (Yba.zeroValue41 W) hwf
    have l2 := h5.look Yba.underlying45 Yba.underlying29 (Yba.zeroValue41 W) hwf
    obtain ⟨q1, q2⟩ := h7 k hk
    cases hp : passG s.G k with
    | false => rw [q1 hp] at l1 l2; exact ⟨_, l1, l2, fun q => by cases q⟩
    | true =>
      obtain ⟨v, v1, v2⟩ := q2 hp
      rw [v1] at l1 l2
      exact ⟨v, l1, l2, fun _ => v2⟩
end Go.Proofs.Ybulkxiu
