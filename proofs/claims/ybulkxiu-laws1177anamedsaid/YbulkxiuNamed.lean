import Derived.Test.YbulkxiuGi
import Derived.Deep.RegionHeld3
namespace Go.Proofs.Ybulkxiu
open Go.RowKit
set_option maxRecDepth 100000

/-- append(v, v2...) of a row of nodes. -/
theorem run_appReads (w : World) (ty : TypeId) (base : Nat) (v v2 : Value) (n : Nat) (xs : List Value) (K : List Nat) (hown : w.ownsRow base 45 1 v n xs)
    (src : (v2 = .slice none 0 0 ∧ K = []) ∨ ∃ b c, v2 = .slice (some ⟨b, 0, none⟩) K.length c ∧ ∀ j, j < K.length → w.cell? ⟨b, j, none⟩ = some (.int .u32 ((K.getD j 0 : Nat) + 1 : Int)))
    (hlen : n + K.length ≤ 1000000) (hbase : base ≤ w.heap.size) :
    ∃ v' w', (Builtin.append_ #[41, 41] ty #[v, v2]).run Yba.prog w = .ok v' w' ∧ w'.ownsRow base 45 1 v' (n + K.length) (xs ++ U32s K) ∧ w.grownBy w' v.ownBlock := by
  obtain ⟨i0, qi, qz0, qz1, qz2⟩ := info_parts info45
  rcases src with ⟨rfl, rfl⟩ | ⟨b, c, rfl, hc⟩
  · refine ⟨v, w, run_append_owned_none w base 41 ty 45 i0 1 Yba.underlying41 qi v n xs hown, by simpa [U32s, U32] using hown, ⟨rfl, rfl, rfl, Nat.le_refl _, fun _ _ _ => rfl⟩⟩
  · obtain ⟨v', w', h1, h2, h3, _⟩ := run_append_own (P := Yba.prog) w base 41 ty 45 i0 _ 1 4 Yba.underlying41 qi qz0 qz1 qz2 rfl (by decide) v n xs hown ⟨b, 0, none⟩ K.length c (U32s K) (by simp [U32s, U32]) (fun j u hu => by
      have hj : j < K.length := by
        have := (List.getElem?_eq_some_iff.1 hu).1
        simpa [U32s, U32] using this
      rw [show (⟨b, 0, none⟩ : Addr).add j = ⟨b, j, none⟩ by unfold Addr.add; split <;> simp_all]
      rw [hc j hj, ← hu]
      simp [U32s, U32, List.getD, hj]) (by intro u hu; simp [U32s, U32] at hu; obtain ⟨a, _, rfl⟩ := hu; rfl) (by unfold maxLen; omega) (by omega) hbase
    exact ⟨v', w', h1, h2, h3⟩
theorem step_appReads {w : World} {ops : Array Oper} {o : Oper} {a : Act} {K' : Act → World → Prop} {Q : Exit → Act → World → Prop} {E : Prop} (hgd : o.guard = none) (s x : Operand)
    (ho : o.op = .call { callee := .builtin .append, args := #[s, x], argTypes := #[41, 41] })
    (base : Nat) (v v2 : Value) (n : Nat) (xs : List Value) (K : List Nat) (hs : a.eval s = v) (hx : a.eval x = v2) (hown : w.ownsRow base 45 1 v n xs)
    (src : (v2 = .slice none 0 0 ∧ K = []) ∨ ∃ b c, v2 = .slice (some ⟨b, 0, none⟩) K.length c ∧ ∀ j, j < K.length → w.cell? ⟨b, j, none⟩ = some (.int .u32 ((K.getD j 0 : Nat) + 1 : Int)))
    (hlen : n + K.length ≤ 1000000) (hbase : base ≤ w.heap.size)
    (h : ∀ v' w', w'.ownsRow base 45 1 v' (n + K.length) (xs ++ U32s K) → w.grownBy w' v.ownBlock → K' (a.put o.dst v') w') :
    if Region.wanted o (yielded ops a.tmps) = true then Oper.wp Yba.prog o a w K' Q else E := by
  have hw : Region.wanted o (yielded ops a.tmps) = true := by simp [Region.wanted, hgd]
  rw [if_pos hw]
  obtain ⟨v', w', hr, h2, h3⟩ := run_appReads w o.type base v v2 n xs K hown src hlen hbase
  unfold Oper.wp execOp
  simp only [ho, resolve, invoke, builtin, Sem.run_bind, Sem.run_pure, Result.andThen_ok, List.map_toArray, List.map_cons, List.map_nil, hs, hx, hr]
  exact h v' w' h2 h3

/-- What a node and those that its jump passes over name (from 1). -/
def namN (evp : Nat → Option Nat) (nd : Nat → Nat) (G : PG) (cs : Nat → List (Option Nat)) (nm : Nat → List Nat) (k : Nat) : List Nat :=
  if passG G k then (nm k).map (· + 1) else ownL evp nd (G.par k) (cs k)
theorem ownL_len (evp : Nat → Option Nat) (nd : Nat → Nat) (par : Nat) (cs : List (Option Nat)) : (ownL evp nd par cs).length ≤ cs.length := by
  unfold ownL
  refine Nat.le_trans (List.length_filter_le _ _) ?_
  rw [List.length_map]; exact Nat.le_refl _

set_option maxHeartbeats 2000000 in
/-- (*authGraph).appendNamed -/
theorem appendNamed_any {B0 : Nat} {w0 : World} {tg : Nat → Nat} {gB : Nat} {nv : Value} {mp : Option Nat} {G : PG} {cv : Nat → Value} {cb : Nat → List Nat} {cs : Nat → List (Option Nat)} {i : Nat} {nm : Nat → List Nat} (g : GI B0 w0 tg gB nv mp G cv cb cs i nm)
    {xB rb cr db cd ib ci ab ca mb' nmx : Nat} {evp : Nat → Option Nat} {nd : Nat → Nat} (X : XMem w0 xB rb cr db cd ib ci ab ca mb' nmx i evp) (NM : NumMem w0 i evp nd) (k : Nat) (hk : k < G.n)
    (v : Value) (l : List Nat) (w : World) (bel : RowKit.Below w0.heap.size w0 w) (row : w.ownsRow w0.heap.size 45 1 v l.length (U32 l)) (hl : l.length ≤ 50000) :
    Calls Yba.prog 17 #[.pointer (some ⟨gB, 0, none⟩), v, .pointer (some ⟨G.ev k, 0, none⟩), .pointer (some ⟨xB, 0, none⟩)] w fun e w' => ∃ v', e = .returned v' ∧ w'.ownsRow w0.heap.size 45 1 v' (l ++ namN evp nd G cs nm k).length (U32 (l ++ namN evp nd G cs nm k)) ∧ RowKit.Below w0.heap.size w0 w' := by
  obtain ⟨nb, c, _, hM, _, _, hnb, _⟩ := g.gmem (by omega)
  obtain ⟨ga, g1, g2, g3⟩ := g.gblk
  obtain ⟨ea, ad, ec, e1, e2, e3, e4, e5, e6, e7, e8⟩ := g.evs k hk
  have hgl : gB < w0.heap.size := (Array.getElem?_eq_some_iff.1 g1).1
  have hel : G.ev k < w0.heap.size := (Array.getElem?_eq_some_iff.1 e1).1
  have bc : ∀ a u, w0.cell? a = some u → w.cell? a = some u := fun a u h => (bel.cell (World.block_lt_of_cell? w0 a h)).trans h
  have HM := toAside (hM.of bc)
  have N1 := toAside (node_any gB nb G.n c k (G.ev k) w HM.out.g0 hk g.wf.small (HM.out.nd k hk))
  have P1 : Aside (∀ q, Calls Yba.prog 15 #[.pointer (some ⟨nb, k * 6, none⟩)] (w.drewN q) fun e w' => e = .returned (.bool (decide (G.par k ≠ 0 ∧ G.jmp k ≠ G.par k))) ∧ ∃ r, w' = (w.drewN q).drewN r) := fun q => passes_any nb (k * 6) (G.par k) (G.jmp k) (w.drewN q) ((HM.out.drewN q).par k hk) ((HM.out.drewN q).jmp k hk)
  cases hp : passG G k with
  | false =>
    have hp' : decide (G.par k ≠ 0 ∧ G.jmp k ≠ G.par k) = false := hp
    rw [hp'] at P1
    have HN : Aside (namN evp nd G cs nm k = ownL evp nd (G.par k) (cs k)) := (by unfold namN; rw [hp]; rfl : namN evp nd G cs nm k = ownL evp nd (G.par k) (cs k))
    have AO : Aside (∀ q, Calls Yba.prog 18 #[.pointer (some ⟨gB, 0, none⟩), v, .pointer (some ⟨G.ev k, 0, none⟩), .int .u32 (G.par k), .pointer (some ⟨xB, 0, none⟩)] (w.drewN q) fun e w' => ∃ v', e = .returned v' ∧ w'.ownsRow w0.heap.size 45 1 v' (l ++ ownL evp nd (G.par k) (cs k)).length (U32 (l ++ ownL evp nd (G.par k) (cs k))) ∧ RowKit.Below w0.heap.size w0 w') := fun q =>
      appendOwn_any X NM (G.ev k) (cs k).length ec ad (cs k) (EvMem.cellAt e1 e5) hel (fun t ht => by obtain ⟨b, o, h1, h2, h3⟩ := e8 t ht; exact ⟨b, o, h1, World.block_lt_of_cell? w0 _ h3, h3⟩) rfl e6 e7 _ v l (G.par k) (w.drewN q) ⟨bel.os, bel.tape, bel.output, bel.size, bel.block⟩ row (by omega)
    have cp : Aside (∀ q, (w.drewN q).cell? ⟨nb, k * 6 + 2, none⟩ = some (.int .u32 (G.par k))) := fun q => (HM.out.drewN q).par k hk
    clear hp hp' e1 e2 e3 e4 e5 e6 e7 e8 g1 g2 g3 hM HM bc bel row X NM g
    go_enter Yba.func17, Yba.ntmps17
    go_wp2_with fail
    refine N1.out.mono ?_
    rintro e w1 ⟨rfl, q1, rfl⟩
    go_wp2_with fail
    refine (P1.out q1).mono ?_
    rintro e w2 ⟨rfl, q2, rfl⟩
    rw [World.drewN_drewN]
    have cp1 := cp.out (q1 + q2)
    go_wp2_with fail
    refine (AO.out (q1 + q2)).mono ?_
    rintro e w3 ⟨v', rfl, R3, B3⟩
    go_wp2
    go_ret
    exact ⟨v', rfl, by rw [HN.out]; exact R3, B3⟩
  | true =>
    have hp' : decide (G.par k ≠ 0 ∧ G.jmp k ≠ G.par k) = true := hp
    rw [hp'] at P1
    have HN : Aside (namN evp nd G cs nm k = (nm k).map (· + 1)) := (by unfold namN; rw [hp]; rfl : namN evp nd G cs nm k = (nm k).map (· + 1))
    have HNL : Aside ((nm k).length ≤ 100000) := (by
      have h1 := (g.nmlt k hk hp).1
      have h2 := g.wf.dep_le k hk
      have h3 := g.wf.small
      have h4 : (nm k).length ≤ 16 * G.dep k := Nat.le_trans h1 (Nat.mul_le_mul_left 16 (Nat.sub_le _ _))
      omega : (nm k).length ≤ 100000)
    rcases g.named with ⟨_, h0⟩ | ⟨mb, mc, f, rfl, _, _, _, hMV, _, hf⟩
    · rw [h0 k hk] at hp; cases hp
    · obtain ⟨v2, f1, f2⟩ := (hf k hk).2 hp
      have hMB : mb < w0.heap.size := hMV.lt
      have LK : Aside (∀ W : World, W.heap[mb]? = w0.heap[mb]? → (Instr.lookup 29 (.map (some mb)) (.int .u32 ((k : Int) + 1)) false).run Yba.prog W = .ok v2 W) := fun W hW => by
        have hwf : (Lit.int .u32 ((k : Int) + 1)).wf = true := by
          have h3 := g.wf.small
          simp [Lit.wf, IntKind.min, IntKind.max, IntKind.signed, IntKind.bits]; omega
        have := (hMV.of hW).look Yba.underlying45 Yba.underlying29 (Yba.zeroValue41 _) hwf
        rw [f1] at this
        exact this
      have SR : Aside (∀ W : World, (∀ a u, w0.cell? a = some u → W.cell? a = some u) → (v2 = .slice none 0 0 ∧ nm k = []) ∨ ∃ b c, v2 = .slice (some ⟨b, 0, none⟩) (nm k).length c ∧ ∀ j, j < (nm k).length → W.cell? ⟨b, j, none⟩ = some (.int .u32 (((nm k).getD j 0 : Nat) + 1 : Int))) := fun W hW => by
        rcases f2 with h | ⟨b, c, h1, _, _, _, h4⟩
        · exact Or.inl h
        · exact Or.inr ⟨b, c, h1, fun j hj => hW _ _ (h4 j hj)⟩
      have BC := toAside bc
      have C2 : Aside (∀ q, (w.drewN q).cell? ⟨gB, 2, none⟩ = some (.map (some mb))) := fun q => bc _ _ (by rw [cell_of_row w0 gB 2 ga 39 (0, 0) g1]; exact g3)
      have C7 : Aside (∀ q, (w.drewN q).cell? ⟨G.ev k, 7, none⟩ = some (.int .u32 ((k : Int) + 1))) := fun q => bc _ _ (EvMem.cellAt e1 (by rw [e4]; rfl))
      have HB := toAside bel
      have HR := toAside row
      have hML := toAside hMB
      have hGL := toAside hgl
      have hEL := toAside hel
      have RL : Aside (∀ b, v.ownBlock = some b → w0.heap.size ≤ b) := fun b hb => (row.lt b hb).1
      clear hp hp' e1 e2 e3 e4 e5 e6 e7 e8 g1 g2 g3 hM HM bc bel row X NM g f1 f2 hf hMV hMB hgl hel
      go_enter Yba.func17, Yba.ntmps17
      go_wp2_with fail
      refine N1.out.mono ?_
      rintro e w1 ⟨rfl, q1, rfl⟩
      go_wp2_with fail
      refine (P1.out q1).mono ?_
      rintro e w2 ⟨rfl, q2, rfl⟩
      rw [World.drewN_drewN]
      obtain ⟨w3, hw3⟩ : ∃ W, W = w.drewN (q1 + q2) := ⟨_, rfl⟩
      have c2 := C2.out (q1 + q2)
      have c7 := C7.out (q1 + q2)
      have B3 : Aside (RowKit.Below w0.heap.size w0 w3) := by rw [hw3]; exact (⟨HB.out.os, HB.out.tape, HB.out.output, HB.out.size, HB.out.block⟩ : RowKit.Below w0.heap.size w0 (w.drewN (q1 + q2)))
      have R3 : Aside (w3.ownsRow w0.heap.size 45 1 v l.length (U32 l)) := by rw [hw3]; exact HR
      rw [← hw3] at c2 c7 ⊢
      clear hw3
      have lk := LK.out w3 (B3.out.block _ hML.out)
      go_wp2_with fail
      go_region_held3 (fun w' => w'.cell? ⟨gB, 2, none⟩ = some (.map (some mb)) ∧ w'.cell? ⟨G.ev k, 7, none⟩ = some (.int .u32 ((k : Int) + 1)) ∧ (Instr.lookup 29 (.map (some mb)) (.int .u32 ((k : Int) + 1)) false).run Yba.prog w' = .ok v2 w')
        (first
          | (go_split_ands; refine ⟨by go_keep, by go_keep, ?_⟩; first | assumption | exact LK.out _ (B3.out.block _ hML.out))
          | (go_split_ands; refine ⟨?_, ?_, LK.out _ ((hgrow.block _ (by have := B3.out.size; have := hML.out; simp; omega) (fun e => by have := RL.out mb e.symm; have := hML.out; omega)).trans (B3.out.block _ hML.out))⟩
             · exact hgrow.cell (by assumption) (fun e => by have := RL.out gB e.symm; have := hGL.out; omega)
             · exact hgrow.cell (by assumption) (fun e => by have h1 := RL.out _ e.symm; have h2 := hEL.out; exact absurd h1 (Nat.not_le_of_lt h2))))
        ((refine step_appReads (by rfl) _ _ (by rfl) w0.heap.size v v2 l.length (U32 l) (nm k) (by rfl) (by rfl) R3.out (SR.out _ fun a u h => (B3.out.cell (World.block_lt_of_cell? w0 a h)).trans h) (by have := HNL.out; omega) B3.out.size ?_; intro v4 w4 hown4 hgrow))
      go_wp2
      go_ret
      refine ⟨v4, rfl, ?_, B3.out.trans ⟨hgrow.os, hgrow.tape, hgrow.output, hgrow.size, fun b hb => hgrow.block b (Nat.lt_of_lt_of_le hb B3.out.size) (fun e => by have := RL.out b e.symm; omega)⟩⟩
      rw [HN.out]
      have := hown4
      unfold U32s U32 at this
      unfold U32
      rw [List.map_append, List.length_append, List.length_map]
      exact this
end Go.Proofs.Ybulkxiu
