import Derived.Test.YbulkxiuBuild
import Derived.Test.YbulkxiuLc
namespace Go.Proofs.Ybulkxiu
open Go.RowKit
set_option maxRecDepth 100000
/-- The first t nodes of the way up from k. -/
def PLt (G : PG) (k t : Nat) : List Nat := (List.range t).map fun u => upN G u (k + 1)
theorem PLt_len (G : PG) (k t : Nat) : (PLt G k t).length = t := by unfold PLt; simp
theorem PLt_succ (G : PG) (k t : Nat) : PLt G k (t + 1) = PLt G k t ++ [upN G t (k + 1)] := by unfold PLt; rw [List.range_succ, List.map_append]; rfl
theorem PLt_at (G : PG) (k t u : Nat) (h : u < t) : (PLt G k t).getD u 0 = upN G u (k + 1) := by unfold PLt; simp [List.getD, h]
theorem upS (G : PG) (t a j : Nat) (h : upN G t a = j + 1) : upN G (t + 1) a = G.par j := by
  rw [upN_add, h]
  show st G (j + 1) = _
  unfold st; rw [if_neg (by omega), Nat.add_sub_cancel]
/-- The named row of a node whose jump leads past its parent. -/
theorem ReadsT.form {W : World} {tg : Nat → Nat} {v : Value} {K : List Nat} (h : ReadsT W tg v K) : ∃ a c, v = .slice a K.length c ∧ K.length ≤ c ∧ RdL W (.slice a K.length c) (K.map (· + 1)) ∧ ∀ j, j < K.length → ∃ b, a = some ⟨b, 0, none⟩ ∧ W.cell? ⟨b, j, none⟩ = some (.int .u32 ((K.getD j 0 : Nat) + 1 : Int)) := by
  rcases h with ⟨rfl, rfl⟩ | ⟨b, c, rfl, hc, _, _, h4⟩
  · exact ⟨none, 0, rfl, Nat.le_refl _, ⟨none, 0, rfl, fun j hj => absurd hj (by simp)⟩, fun j hj => absurd hj (by simp)⟩
  · refine ⟨some ⟨b, 0, none⟩, c, rfl, hc, ⟨some ⟨b, 0, none⟩, c, by rw [List.length_map], fun j hj => ⟨b, rfl, ?_⟩⟩, fun j hj => ⟨b, rfl, h4 j hj⟩⟩
    rw [List.length_map] at hj
    rw [h4 j hj]
    simp [List.getD, hj]
theorem ReadsU.rdl {W : World} {tg : Nat → Nat} {v : Value} {l : List Nat} (h : ReadsU W tg v l) : RdL W v l := by
  rcases h with ⟨rfl, rfl⟩ | ⟨b, c, rfl, _, _, _, h4⟩
  · exact ⟨none, 0, rfl, fun j hj => absurd hj (by simp)⟩
  · exact ⟨some ⟨b, 0, none⟩, c, rfl, fun j hj => ⟨b, rfl, h4 j hj⟩⟩
theorem LF.lp {W : World} {F : Fx} {s : GS} {nb cn eb ec pb pc db dc ob oc cB cC : Nat} (h : LF W F s nb cn eb ec pb pc db dc ob oc cB cC) : LP W F.mB s.G eb ec pb pc := ⟨h.m0, h.me, h.m1, h.mp, h.e1, h.e4⟩
theorem take_not {K : List Nat} (h : K.Nodup) {xi : Nat} (hx : xi < K.length) : decide (K.getD xi 0 + 1 ∈ (K.map (· + 1)).take xi) = false := by
  refine decide_eq_false fun hm => ?_
  obtain ⟨j, hj, e⟩ := List.mem_iff_getElem.1 hm
  rw [List.length_take, List.length_map] at hj
  rw [List.getElem_take, List.getElem_map] at e
  have e2 : K.getD xi 0 = K[xi] := by simp [List.getD, hx]
  rw [e2] at e
  have := (List.pairwise_iff_getElem.1 h) j xi (by omega) hx (by omega)
  exact this (by omega)
set_option maxHeartbeats 16000000 in
theorem named_walk (w : World) (va : Option Addr) (sb so len cap : Nat) (hva : 0 < len → va = some ⟨sb, so, none⟩) (D : Nat → StepD) (hM : len ≤ 512 → StepMem w sb so len D) :
    Calls Yba.prog 4 #[.slice va len cap] w fun e w' => e = .returned (.bool true) ∧ RowKit.Below w.heap.size w w' := by
  have HVA := toAside hva
  have HM := toAside hM
  clear hva hM
  go_enter Yba.func4, Yba.ntmps4
  by_cases hlen : len ≤ 512
  · have hl' : ¬ (512 : Int) < (len : Int) := by omega
    have hl2 : decide ((512 : Int) < (len : Int)) = false := decide_eq_false hl'
    have BD := toAside (build_any w va sb so len cap HVA.out D (HM.out hlen) hlen)
    clear HVA HM
    go_wp2_with fail
    refine BD.out.mono ?_
    rintro e w1 ⟨gB, mB, rfl, F, s, rfl, rfl, hFl, hFB, hB⟩
    dsimp only
    have HB := toAside hB
    have BL : Aside (RowKit.Below w.heap.size w w1) := by have := hB.bel; rw [hFB] at this; exact toAside this
    have BS : Aside (w.heap.size ≤ w1.heap.size) := by have := hB.sz; rw [hFB] at this; exact toAside this
    clear hB BD hFl hFB
    obtain ⟨na, nc, ea, ec, k0, k1⟩ := HB.out.lens
    go_wp2_with fail
    go_quiet (fail)
    go_wp2
    clear k0 k1
    go_loopg [45] s.G.n (fun kx s45 wr => ∃ i : Nat, s45 = .int .i64 i ∧ i ≤ s.G.n ∧ s.G.n - i ≤ kx ∧ Aside (RowKit.Below w1.heap.size w1 wr))
    case atStart => exact ⟨0, rfl, Nat.zero_le _, by omega, ⟨rfl, rfl, rfl, Nat.le_refl _, fun _ _ => rfl⟩⟩
    case round =>
      obtain ⟨i, rfl, hin, hkx, BW⟩ := hrel
      by_cases hlt : i < s.G.n
      · have B : Aside (BI F w s len wr) := toAside (HB.out.fr (S := fun _ => False) (tg' := s.tg) ⟨BW.out.os, BW.out.tape, BW.out.output, BW.out.size, fun _ _ => rfl, fun b hb _ => BW.out.block b hb⟩ (fun _ q => q.elim))
        obtain ⟨nb, cn, eb, ec, pb, pc, db, dc, ob, oc, cB, cC, l0⟩ := B.out.lf (by omega)
        have L := toAside l0
        clear l0
        have hsm := L.out.wf.small
        have i0 : (0 : Int) ≤ (i : Int) := by omega
        have i1 : (i : Int) < (s.G.n : Int) := by omega
        have hwi : IntKind.u32.wrap ((i : Int) + 1) = (i : Int) + 1 := by rw [IntKind.wrap_u32]; omega
        have c1 := L.out.g0
        have c2 := L.out.n2 i hlt
        have c3 := L.out.n4 i hlt
        by_cases hp : s.G.par i = 0
        · have hb : ((s.G.par i : Int) != 0) = false := by simp [hp]
          clear hp
          go_wp2_with fail
          go_quiet (fail)
          go_wp2
          go_roundg (s.G.n - (i + 1))
          case measure => omega
          case rel => exact ⟨i + 1, by go_num, by omega, Nat.le_refl _, ⟨BW.out.os, BW.out.tape, BW.out.output, BW.out.size, BW.out.block⟩⟩
        · have hb : ((s.G.par i : Int) != 0) = true := by simp; omega
          by_cases hj : s.G.jmp i = s.G.par i
          · have hb2 : ((s.G.jmp i : Int) != (s.G.par i : Int)) = false := by simp [hj]
            clear hp hj
            go_wp2_with fail
            go_quiet (fail)
            go_wp2
            go_roundg (s.G.n - (i + 1))
            case measure => omega
            case rel => exact ⟨i + 1, by go_num, by omega, Nat.le_refl _, ⟨BW.out.os, BW.out.tape, BW.out.output, BW.out.size, BW.out.block⟩⟩
          · have hb2 : ((s.G.jmp i : Int) != (s.G.par i : Int)) = true := by simp; omega
            have hps : passG s.G i = true := by unfold passG; simp [hp, hj]
            have NKI := toAside (B.out.nk i hlt hps)
            have NLT := toAside (B.out.g.nmlt i hlt hps)
            obtain ⟨J, p1, p2, p3, p4, p5, p6⟩ := L.out.wf.path hlt hp
            have HP5 : Aside (upN s.G (pathN s.G i) (i + 1) = J + 1 ∧ s.G.jmp i = J + 1 ∧ s.G.dep J = s.G.dep i - pathN s.G i) := ⟨p5, p1, p6⟩
            obtain ⟨P, hP⟩ : ∃ P, P = pathN s.G i := ⟨_, rfl⟩
            rw [← hP] at p3 p4 HP5
            have HPN : Hid (P = pathN s.G i) := hP
            have OWN : Aside (∀ k, k < s.G.n → ∀ x ∈ s.own k, x ≠ 0 ∧ x ≤ s.G.n) := fun k hk x hx => by
              rw [B.out.own k hk] at hx
              obtain ⟨x1, x2⟩ := ownL_mem hx
              obtain ⟨_, _, _, _, _, _, _, _, _, h7k, _⟩ := B.out.g.evs k hk
              exact ⟨x1, B.out.num.le h7k x x2⟩
            have OWL : Aside (∀ k, k < s.G.n → (s.own k).length ≤ 16) := fun k hk => by
              rw [B.out.own k hk]
              obtain ⟨_, _, _, _, _, _, _, _, h6k, _, _⟩ := B.out.g.evs k hk
              unfold ownL
              exact Nat.le_trans (List.length_filter_le _ _) (by rw [List.length_map]; exact h6k)
            clear hP p1 p5 p6 hp hj B
            go_wp2_with fail
            go_quiet (fail)
            obtain ⟨w2, hw2⟩ : ∃ X, X = wr.drewN nq := ⟨_, rfl⟩
            have L2 : Aside (LF w2 F s nb cn eb ec pb pc db dc ob oc cB cC) := by rw [hw2]; exact toAside (L.out.drewN _)
            have BW2 : Aside (RowKit.Below w1.heap.size w1 w2) := by rw [hw2]; exact toAside ⟨BW.out.os, BW.out.tape, BW.out.output, BW.out.size, BW.out.block⟩
            rw [← hw2]
            clear hw2 L BW c1 c2 c3 hb hb2
            obtain ⟨v, _, lk, hrt⟩ := L2.out.has hlt
            obtain ⟨ka, kc, hv, hkc, hrl, hcells⟩ := (hrt hps).form
            subst hv
            obtain ⟨K, hK⟩ : ∃ K, K = s.nm i := ⟨_, rfl⟩
            rw [← hK] at lk hkc hrl hcells NLT
            have HKN : Hid (K = s.nm i) := hK
            have RL := toAside hrl
            have CE := toAside hcells
            have hKl : K.length ≤ 1000000 := by
              have h1 := NLT.out.1
              have h2 := L2.out.wf.dep_le i hlt
              omega
            clear hrt hrl hcells hK hps
            have e0 := L2.out.g2
            obtain ⟨mp, hmp⟩ : ∃ mp, mp = s.mp := ⟨_, rfl⟩
            rw [← hmp] at e0 lk
            clear hmp
            go_wp2
            clear lk e0
            have F0 : Aside (Fr (fun T => T = 37) w2 (fun _ => 0) w2 (fun _ => 0)) := Fr.refl _ _ _
            obtain ⟨tA, qi, qz0, qz1, qz2⟩ := info_parts info45
            have hiA := toAside qi
            have hz0A := toAside qz0
            have hz1A := toAside qz1
            have hz2A := toAside qz2
            clear qi qz0 qz1 qz2
            have hP512 : P ≤ 512 := by have := L2.out.wf.dep_le i hlt; omega
            go_loopg [9, 11] (P + 1) (fun kx s9 s11 wx => ∃ (t j : Nat) (tgy : Nat → Nat), s11 = .int .u32 ((j : Int) + 1) ∧ Aside (upN s.G t (i + 1) = j + 1) ∧ t ≤ P ∧ j < s.G.n ∧ P - t + 1 ≤ kx ∧ Aside (RowL w2.heap.size wx tgy 37 s9 (PLt s.G i t)) ∧ Aside (Fr (fun T => T = 37) w2 (fun _ => 0) wx tgy))
            case atStart => exact ⟨0, i, fun _ => 0, rfl, (rfl : upN s.G 0 (i + 1) = i + 1), Nat.zero_le _, hlt, by omega, RowF.nil _ _ _ _ _ _ _, F0⟩
            case round =>
              obtain ⟨t, j, tgy, rfl, HJ, htP, hjn, hkx2, R9, F9⟩ := hrel
              have hc9 : ∀ a u, w2.cell? a = some u → wr.cell? a = some u := fun a u h => F9.out.cell h (by show ¬ (0 = 37); omega)
              have d1 := hc9 _ _ L2.out.m1
              have d2 := hc9 _ _ (L2.out.n4 i hlt)
              have d3 := hc9 _ _ (L2.out.mp j hjn)
              have HC9 := toAside hc9
              clear hc9
              have z0 : (0 : Int) ≤ (j : Int) := by omega
              have z1 : (j : Int) < (s.G.n : Int) := by omega
              have wj : IntKind.u32.wrap (j : Int) = (j : Int) := by rw [IntKind.wrap_u32]; omega
              have b0 : (((j : Int) + 1) != 0) = true := by simp; omega
              by_cases htE : t = P
              · subst htE
                have hje : s.G.jmp i = j + 1 := by rw [HP5.out.2.1, ← HP5.out.1]; exact HJ.out
                have d2' : wr.cell? ⟨nb, i * 6 + 4, none⟩ = some (.int .u32 ((j : Int) + 1)) := by rw [d2, hje]; rfl
                clear d1 d2 d3 hje z0 z1 wj
                rename World => w5
                obtain ⟨pa, pcp, h9, _, h9c⟩ := R9.out.form
                rw [PLt_len] at h9 h9c
                have PC : Aside (∀ u, u < t → ∃ b, pa = some ⟨b, 0, none⟩ ∧ w5.cell? ⟨b, u, none⟩ = some (.int .u32 ((upN s.G u (i + 1) : Nat) : Int))) := fun u hu => by
                  obtain ⟨b, hb, _, _, _, hcc, _⟩ := h9c (by omega)
                  refine ⟨b, hb, ?_⟩
                  rw [hcc u (by omega)]
                  unfold u32F
                  rw [PLt_at _ _ _ _ hu]
                have CE5 : Aside (∀ j, j < K.length → ∃ b, ka = some ⟨b, 0, none⟩ ∧ w5.cell? ⟨b, j, none⟩ = some (.int .u32 ((K.getD j 0 : Nat) + 1 : Int))) := fun j hj => by
                  obtain ⟨b, h1, h2⟩ := CE.out j hj
                  exact ⟨b, h1, HC9.out _ _ h2⟩
                have RL5 : Aside (RdL w5 (.slice ka K.length kc) (K.map (· + 1))) := RL.out.of HC9.out
                have LP5 : Aside (LP w5 F.mB s.G eb ec pb pc) := L2.out.lp.of HC9.out
                have OV5 : Aside (∀ k, k < s.G.n → w5.cell? ⟨ob, k, none⟩ = some (s.ovm k) ∧ RdL w5 (s.ovm k) (s.own k)) := fun k hk => ⟨HC9.out _ _ (L2.out.mo k hk), (ReadsU.rdl (L2.out.ro k hk)).of HC9.out⟩
                have M35 := toAside (HC9.out _ _ L2.out.m3)
                have BW5 : Aside (RowKit.Below w1.heap.size w1 w5) := BW2.out.trans ⟨F9.out.os, F9.out.tape, F9.out.output, F9.out.size, fun b hb => F9.out.block b (Nat.lt_of_lt_of_le hb BW2.out.size) (by show ¬ (0 = 37); omega)⟩
                have WF5 := toAside L2.out.wf
                clear h9c CE RL HC9 F9 R9 L2 BW2 htP hkx2 b0 HJ hjn
                subst h9
                go_wp2
                clear d2'
                go_loopg [105] K.length (fun kx s105 wx => ∃ xi : Nat, s105 = .int .i64 xi ∧ xi ≤ K.length ∧ K.length - xi ≤ kx ∧ Hid (wx = w5))
                case atStart => exact ⟨0, rfl, Nat.zero_le _, by omega, rfl⟩
                case round =>
                  obtain ⟨xi, rfl, hxn, hkx3, HX⟩ := hrel
                  by_cases hxl : xi < K.length
                  · obtain ⟨lb, hka, x1⟩ := CE5.out xi hxl
                    subst hka
                    obtain ⟨y, hy⟩ : ∃ y, y = K.getD xi 0 := ⟨_, rfl⟩
                    have hyK : y ∈ K := by
                      have e : K.getD xi 0 = K[xi] := by simp [List.getD, hxl]
                      rw [hy, e]; exact List.getElem_mem hxl
                    have hyi : y < i := NLT.out.2 y hyK
                    have x2 : wr.cell? ⟨lb, xi, none⟩ = some (.int .u32 ((y : Int) + 1)) := by rw [HX.out, hy]; exact x1
                    have HTN : Hid (decide (y + 1 ∈ (K.map (· + 1)).take xi) = false) := (by rw [hy]; exact take_not (by rw [HKN.out]; exact NKI.out.nd) hxl : decide (y + 1 ∈ (K.map (· + 1)).take xi) = false)
                    obtain ⟨tc, tc1, tc2⟩ := NKI.out.sub y (by rw [← HKN.out]; exact hyK)
                    rw [← HPN.out] at tc1
                    have TC : Aside (y + 1 ∈ s.own (upN s.G tc (i + 1) - 1)) := tc2
                    have CT : Aside (Calls Yba.prog 7 #[.slice (some ⟨lb, 0, none⟩) xi kc, .int .u32 ((y : Int) + 1)] w5 fun e w' => e = .returned (.bool false) ∧ w' = w5) := by
                      have hrd : RdL w5 (.slice (some ⟨lb, 0, none⟩) xi kc) ((K.map (· + 1)).take xi) := by
                        have hlen5 : ((K.map (· + 1)).take xi).length = xi := by rw [List.length_take, List.length_map]; omega
                        refine ⟨some ⟨lb, 0, none⟩, kc, by rw [hlen5], fun j hj => ?_⟩
                        rw [hlen5] at hj
                        obtain ⟨b', e1, e2⟩ := CE5.out j (by omega)
                        refine ⟨b', e1, ?_⟩
                        rw [e2]
                        simp [List.getD, hj, show j < K.length by omega]
                      have h := contains_any w5 (.slice (some ⟨lb, 0, none⟩) xi kc) ((K.map (· + 1)).take xi) (y + 1) hrd (by rw [List.length_take, List.length_map]; omega)
                      rw [HTN.out] at h
                      exact toAside h
                    have x0 : (0 : Int) ≤ (xi : Int) := by omega
                    have x3 : (xi : Int) < (K.length : Int) := by omega
                    have x4 : (xi : Int) ≤ (kc : Int) := by omega
                    have g0 : (((y : Int) + 1) == 0) = false := by simp; omega
                    have g1 : ¬ ((i : Int) ≤ (y : Int)) := by omega
                    have g2 : decide ((i : Int) ≤ (y : Int)) = false := decide_eq_false g1
                    have g3 : ¬ ((i : Int) + 1 ≤ (y : Int) + 1) := by omega
                    have g4 : decide ((i : Int) + 1 ≤ (y : Int) + 1) = false := decide_eq_false g3
                    have HW5 : Hid (wr = w5) := HX.out
                    rw [HX.out] at x2 ⊢
                    clear x1 hy tc2 HX HW5 hyK
                    go_wp2_with fail
                    refine CT.out.mono ?_
                    rintro e9 w7 ⟨rfl, hw7⟩
                    dsimp only
                    rw [hw7]
                    clear hw7 CT x2 g0 g1 g2 g3 g4 w7
                    go_wp2
                    go_loopg [124] (tc + 1) (fun kx s124 wx => ∃ t4 : Nat, s124 = .int .i64 t4 ∧ t4 ≤ tc ∧ tc - t4 + 1 ≤ kx ∧ Hid (wx = w5))
                    case atStart => exact ⟨0, rfl, Nat.zero_le _, by omega, rfl⟩
                    case round =>
                      obtain ⟨t4, rfl, ht4, hkx4, HX⟩ := hrel
                      obtain ⟨pB, hpa, y1⟩ := PC.out t4 (by omega)
                      subst hpa
                      obtain ⟨j4, q1, q2, _⟩ := WF5.out.up t4 i hlt (by omega)
                      have hjn : j4 < s.G.n := by omega
                      obtain ⟨o1, o2⟩ := OV5.out j4 hjn
                      have y2 : w5.cell? ⟨pB, t4, none⟩ = some (.int .u32 ((j4 : Int) + 1)) := by rw [y1, q1]; rfl
                      have HQ1 : Hid (upN s.G t4 (i + 1) = j4 + 1) := q1
                      have m3 := M35.out
                      have z0 : (0 : Int) ≤ (t4 : Int) := by omega
                      have z1 : (t4 : Int) < (t : Int) := by omega
                      have z2 : (0 : Int) ≤ (j4 : Int) := by omega
                      have z3 : (j4 : Int) < (s.G.n : Int) := by omega
                      have wj : IntKind.u32.wrap (j4 : Int) = (j4 : Int) := by rw [IntKind.wrap_u32]; omega
                      have CT2 := toAside (contains_any w5 (s.ovm j4) (s.own j4) (y + 1) o2 (by have := OWL.out j4 hjn; omega))
                      rw [HX.out]
                      clear HX y1 q1 o2
                      by_cases hm : y + 1 ∈ s.own j4
                      · rw [decide_eq_true hm] at CT2
                        clear hm
                        go_wp2_with fail
                        refine CT2.out.mono ?_
                        rintro e9 w7 ⟨rfl, hw7⟩
                        dsimp only
                        rw [hw7]
                        clear hw7 CT2 w7
                        go_wp2
                        go_roundg (K.length - (xi + 1))
                        case measure => omega
                        case rel => exact ⟨xi + 1, by go_num, by omega, Nat.le_refl _, rfl⟩
                      · have hne : t4 ≠ tc := fun e4 => hm (by have h := TC.out; rw [← e4, HQ1.out, Nat.add_sub_cancel] at h; exact h)
                        rw [decide_eq_false hm] at CT2
                        clear hm
                        go_wp2_with fail
                        refine CT2.out.mono ?_
                        rintro e9 w7 ⟨rfl, hw7⟩
                        dsimp only
                        rw [hw7]
                        clear hw7 CT2 w7
                        go_wp2
                        go_roundg (tc - (t4 + 1) + 1)
                        case measure => omega
                        case rel => exact ⟨t4 + 1, by go_num, by omega, Nat.le_refl _, rfl⟩
                  · obtain rfl : xi = K.length := by omega
                    have ht' : ¬ (K.length : Int) < (K.length : Int) := by omega
                    rw [HX.out]
                    clear HX hxl
                    go_wp2
                    go_loopg [144] t (fun kx s144 wx => ∃ t4 q : Nat, s144 = .int .i64 t4 ∧ t4 ≤ t ∧ t - t4 ≤ kx ∧ Hid (wx = w5.drewN q))
                    case atStart => exact ⟨0, 0, rfl, Nat.zero_le _, by omega, rfl⟩
                    case round =>
                      obtain ⟨t4, q, rfl, ht4, hkx4, HX⟩ := hrel
                      by_cases hlt4 : t4 < t
                      · obtain ⟨pB, hpa, y1⟩ := PC.out t4 hlt4
                        subst hpa
                        obtain ⟨j4, q1, q2, _⟩ := WF5.out.up t4 i hlt (by omega)
                        have hjn : j4 < s.G.n := by omega
                        obtain ⟨o1, oa, occ, ho, hoc⟩ := OV5.out j4 hjn
                        have y2 : wr.cell? ⟨pB, t4, none⟩ = some (.int .u32 ((j4 : Int) + 1)) := by rw [HX.out]; exact y1.trans (by rw [q1]; rfl)
                        have o3 : wr.cell? ⟨ob, j4, none⟩ = some (.slice oa (s.own j4).length occ) := by rw [HX.out, ← ho]; exact o1
                        have m3 : wr.cell? ⟨F.mB, 3, none⟩ = some (.slice (some ⟨ob, 0, none⟩) s.G.n oc) := by rw [HX.out]; exact M35.out
                        have HOC := toAside hoc
                        have NC : Aside (∀ d ∈ s.own j4, ∃ y ∈ K, CovN s.G (y + 1) d) := fun d hd => by
                          have h := NKI.out.cov t4 (by rw [← HPN.out]; exact hlt4) d (by rw [q1, Nat.add_sub_cancel]; exact hd)
                          rw [← HKN.out] at h; exact h
                        have z0 : (0 : Int) ≤ (t4 : Int) := by omega
                        have z1 : (t4 : Int) < (t : Int) := by omega
                        have z2 : (0 : Int) ≤ (j4 : Int) := by omega
                        have z3 : (j4 : Int) < (s.G.n : Int) := by omega
                        have wj : IntKind.u32.wrap (j4 : Int) = (j4 : Int) := by rw [IntKind.wrap_u32]; omega
                        have hol := OWL.out j4 hjn
                        clear y1 q1 o1 ho hoc
                        go_wp2
                        rename World => w8
                        go_loopg [157] (s.own j4).length (fun kx s157 wx => ∃ u q2 : Nat, s157 = .int .i64 u ∧ u ≤ (s.own j4).length ∧ (s.own j4).length - u ≤ kx ∧ Hid (wx = w5.drewN q2))
                        case atStart => exact ⟨0, q, rfl, Nat.zero_le _, by omega, HX⟩
                        case round =>
                          clear HX y2 o3 m3
                          obtain ⟨u, q2, rfl, hun, hkx5, HX⟩ := hrel
                          by_cases hul : u < (s.own j4).length
                          · obtain ⟨ocb, hoa, x5⟩ := HOC.out u hul
                            subst hoa
                            obtain ⟨d, hd⟩ : ∃ d, d = (s.own j4).getD u 0 := ⟨_, rfl⟩
                            have hdm : d ∈ s.own j4 := by
                              have e4 : (s.own j4).getD u 0 = (s.own j4)[u] := by simp [List.getD, hul]
                              rw [hd, e4]; exact List.getElem_mem hul
                            obtain ⟨d0, d1⟩ := OWN.out j4 hjn d hdm
                            obtain ⟨cc, hcc⟩ : ∃ cc, d = cc + 1 := ⟨d - 1, by omega⟩
                            have x6 : wr.cell? ⟨ocb, u, none⟩ = some (.int .u32 ((cc : Int) + 1)) := by rw [HX.out]; exact x5.trans (by rw [← hd, hcc]; rfl)
                            have z4 : (0 : Int) ≤ (u : Int) := by omega
                            have z5 : (u : Int) < ((s.own j4).length : Int) := by omega
                            have CV : Aside (Calls Yba.prog 8 #[.pointer (some ⟨F.mB, 0, none⟩), .slice ka K.length kc, .int .u32 ((cc : Int) + 1)] wr fun e9 w' => e9 = .returned (.bool true) ∧ ∃ q9, w' = wr.drewN q9) := by
                              have hcx : ∀ a v, w5.cell? a = some v → wr.cell? a = some v := fun a v z => by rw [HX.out]; exact z
                              exact toAside (covered_any wr F.mB s.G eb ec pb pc WF5.out (LP5.out.of hcx) (.slice ka K.length kc) K (RL5.out.of hcx) (fun y hy => Nat.lt_trans (NLT.out.2 y hy) hlt) hKl cc (by omega) (by rw [← hcc]; exact NC.out d hdm))
                            clear x5 hd hdm d0 d1 hcc
                            go_wp2_with fail
                            refine CV.out.mono ?_
                            rintro e9 w7 ⟨rfl, q7, hw7⟩
                            dsimp only
                            have HX7 : Hid (w7 = w5.drewN (q2 + q7)) := (by rw [hw7, HX.out, World.drewN_drewN] : w7 = w5.drewN (q2 + q7))
                            clear hw7 CV x6 HX
                            go_wp2
                            go_roundg ((s.own j4).length - (u + 1))
                            case measure => omega
                            case rel => exact ⟨u + 1, q2 + q7, by go_num, by omega, Nat.le_refl _, HX7⟩
                          · obtain rfl : u = (s.own j4).length := by omega
                            have ht5 : ¬ ((s.own j4).length : Int) < ((s.own j4).length : Int) := by omega
                            go_wp2
                            go_roundg (t - (t4 + 1))
                            case measure => omega
                            case rel => exact ⟨t4 + 1, q2, by go_num, by omega, Nat.le_refl _, HX⟩
                      · obtain rfl : t4 = t := by omega
                        have ht5 : ¬ (t4 : Int) < (t4 : Int) := by omega
                        go_wp2
                        go_roundg (s.G.n - (i + 1))
                        case measure => omega
                        case rel =>
                          refine ⟨i + 1, by go_num, by omega, Nat.le_refl _, ?_⟩
                          rw [HX.out]
                          exact toAside ⟨BW5.out.os, BW5.out.tape, BW5.out.output, BW5.out.size, BW5.out.block⟩
              · have hjne : s.G.jmp i ≠ j + 1 := fun e => by
                  obtain ⟨j', q1, _, q3⟩ := L2.out.wf.up t i hlt (by omega)
                  have e1 : j' = j := by have := HJ.out; omega
                  have e2 : J = j := by have := HP5.out.2.1; omega
                  rw [e1] at q3
                  have q4 := HP5.out.2.2
                  rw [e2] at q4
                  omega
                have he : (((j : Int) + 1) == (s.G.jmp i : Int)) = false := by simp; omega
                obtain ⟨j2, q1, q2, _⟩ := L2.out.wf.up (t + 1) i hlt (by omega)
                have HJ2 : Aside (upN s.G (t + 1) (i + 1) = j2 + 1) := q1
                have hpj : s.G.par j = j2 + 1 := by rw [← q1]; exact (upS s.G t (i + 1) j HJ.out).symm
                have d3' : wr.cell? ⟨pb, j, none⟩ = some (.int .u32 ((j2 : Int) + 1)) := by rw [d3, hpj]; rfl
                have hj2n : j2 < s.G.n := by omega
                clear d3 hpj q1 hjne
                have RA : Aside (RowF w2.heap.size (wr.alloc (.cells #[.int .u32 ((j : Int) + 1)] 45)) (nT tgy wr.heap.size 18) 37 45 1 u9 (PLt s.G i t).length (u32F (PLt s.G i t))) := RowF.fr R9.out (Fr.of_alloc (fun _ => False) wr tgy _ 18) (fun q => q)
                have HBX : Aside (w2.heap.size ≤ (wr.alloc (.cells #[.int .u32 ((j : Int) + 1)] 45)).heap.size) := (by have := F9.out.size; simp; omega : w2.heap.size ≤ (wr.alloc (.cells #[.int .u32 ((j : Int) + 1)] 45)).heap.size)
                have HPL := toAside (PLt_len s.G i t)
                have d1a : ∀ W, Fr (fun T => T = 37) wr tgy W (nT tgy wr.heap.size 37) → True := fun _ _ => trivial
                clear d1a
                go_wp2_with (first | (at_builtin; refine wpList_rowF rfl (.tmp 97) (.tmp 99) 41 rfl tA _ 4 Yba.underlying41 hiA.out hz0A.out hz1A.out hz2A.out rfl (by decide) rfl RA.out ⟨_, 0, none⟩ 1 [.int .u32 ((j : Int) + 1)] rfl rfl (news1 _ _ _ _ (by simp)) (snoc_news _ rfl) (by unfold maxLen; have := HPL.out; omega) (by have := HPL.out; omega) HBX.out (u32F (PLt s.G i t ++ [j + 1])) (u32F_old _ _) (u32F_new _ _) ?_; intro g1 c1x w6 r1 f1; obtain ⟨tg6, F6, R6⟩ : ∃ tg6, Aside (Fr (fun T => T = 37) w2 (fun _ => 0) w6 tg6) ∧ Aside (RowF w2.heap.size w6 tg6 37 45 1 (.slice (some ⟨g1, 0, none⟩) ((PLt s.G i t).length + 1) c1x) ((PLt s.G i t).length + 1) (u32F (PLt s.G i t ++ [j + 1]))) := ⟨_, F9.out.trans ((Fr.of_alloc (fun T => T = 37) wr tgy (.cells #[.int .u32 ((j : Int) + 1)] 45) 18).trans f1), r1⟩; clear r1 f1; have d1' : w6.cell? ⟨F.mB, 1, none⟩ = some (.slice (some ⟨pb, 0, none⟩) s.G.n pc) := F6.out.cell L2.out.m1 (by show ¬ (0 = 37); omega); have d4' : w6.cell? ⟨pb, j, none⟩ = some (.int .u32 ((j2 : Int) + 1)) := (by have h := F6.out.cell (L2.out.mp j hjn) (by show ¬ (0 = 37); omega); rw [← HC9.out _ _ (L2.out.mp j hjn)] at h; rw [h]; exact d3')))
                go_roundg (P - (t + 1) + 1)
                case measure => omega
                case rel =>
                  refine ⟨t + 1, j2, tg6, by go_num, HJ2, by omega, hj2n, Nat.le_refl _, ?_, F6⟩
                  rw [PLt_succ, HJ.out]
                  show RowL w2.heap.size w6 tg6 37 _ _
                  unfold RowL
                  rw [List.length_append]
                  exact R6.out
      · obtain rfl : i = s.G.n := by omega
        have ht' : ¬ (s.G.n : Int) < (s.G.n : Int) := by omega
        go_wp2
        go_ret
        refine ⟨rfl, ?_⟩
        exact BL.out.trans (BW.out.mono BS.out)
  · have hl' : (512 : Int) < (len : Int) := by omega
    clear HVA HM hlen
    go_wp2
    go_ret
    exact ⟨rfl, Below.refl _ _⟩
end Go.Proofs.Ybulkxiu
