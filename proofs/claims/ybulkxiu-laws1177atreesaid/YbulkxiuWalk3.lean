import Derived.Test.YbulkxiuBuild
import Derived.Test.YbulkxiuLf
import Derived.Deep.Cut
import Derived.Deep.CutRange
import Derived.Deep.CutBlock
namespace Go.Proofs.Ybulkxiu
open Go.RowKit
set_option maxRecDepth 100000
/-- The jump, as so many steps up. -/
theorem WF.jumpUp {G : PG} (h : WF G) {k : Nat} (hk : k < G.n) (hp : G.par k ≠ 0) : ∃ t, 1 ≤ t ∧ t ≤ G.dep k ∧ upN G t (k + 1) = G.jmp k := by
  obtain ⟨_, _, t, t1, t2, t3⟩ := h.kid k hk hp
  exact ⟨t, t1, t2, t3⟩
theorem upN_one (G : PG) (t k : Nat) : upN G (t + 1) (k + 1) = upN G t (G.par k) := by
  show upN G t (st G (k + 1)) = _
  unfold st; rw [if_neg (by omega), Nat.add_sub_cancel]
theorem upN_snoc (G : PG) (t a j : Nat) (h : upN G t a = j + 1) : upN G (t + 1) a = G.par j := by
  rw [upN_add, h]
  show st G (j + 1) = _
  unfold st; rw [if_neg (by omega), Nat.add_sub_cancel]
set_option maxHeartbeats 8000000 in
theorem tree_walk (w : World) (va : Option Addr) (sb so len cap : Nat) (hva : 0 < len → va = some ⟨sb, so, none⟩) (D : Nat → StepD) (hM : len ≤ 512 → StepMem w sb so len D) :
    Calls Yba.prog 3 #[.slice va len cap] w fun e w' => e = .returned (.bool true) ∧ RowKit.Below w.heap.size w w' := by
  have HVA := toAside hva
  have HM := toAside hM
  clear hva hM
  go_enter Yba.func3, Yba.ntmps3
  by_cases hlen : len ≤ 512
  · have hl' : ¬ (512 : Int) < (len : Int) := by omega
    have hl2 : decide ((512 : Int) < (len : Int)) = false := decide_eq_false hl'
    have BD := toAside (build_any w va sb so len cap HVA.out D (HM.out hlen) hlen)
    clear HVA HM
    go_wp2_with fail
    refine BD.out.mono ?_
    rintro e w1 ⟨gB, mB, rfl, F, s, rfl, rfl, hFl, hFB, hB⟩
    dsimp only
    have HB := toAside hB
    have BL : Aside (RowKit.Below w.heap.size w w1) := by have := hB.bel; rw [hFB] at this; exact toAside this
    clear hB BD hFl hFB
    obtain ⟨na, nc, ea, ec, k0, k1⟩ := HB.out.lens
    go_wp2_with fail
    go_quiet (fail)
    go_wp2
    have HW1 : Hid (w1.drewN nq = w1.drewN nq) := rfl
    clear HW1 k0 k1
    go_loopg [36] s.G.n (fun kx s36 wr => ∃ i q : Nat, s36 = .int .i64 i ∧ i ≤ s.G.n ∧ s.G.n - i ≤ kx ∧ Hid (wr = w1.drewN q))
    case atStart => exact ⟨0, nq, rfl, Nat.zero_le _, by omega, rfl⟩
    case round =>
      obtain ⟨i, q, rfl, hin, hkx, HW⟩ := hrel
      by_cases hlt : i < s.G.n
      · obtain ⟨nb, cn, eb, ec, pb, pc, db, dc, ob, oc, cB, cC, l0⟩ := HB.out.lf (by omega)
        have L : Aside (LF wr F s nb cn eb ec pb pc db dc ob oc cB cC) := by rw [HW.out]; exact toAside (l0.drewN q)
        clear l0
        have hsm := L.out.wf.small
        have i0 : (0 : Int) ≤ (i : Int) := by omega
        have i1 : (i : Int) < (s.G.n : Int) := by omega
        have hwi : IntKind.u32.wrap ((i : Int) + 1) = (i : Int) + 1 := by rw [IntKind.wrap_u32]; omega
        have c1 := L.out.g0
        have c2 := L.out.n0 i hlt
        have c3 := L.out.m0
        have c4 := L.out.me i hlt
        have c5 := L.out.e7 i hlt
        have hne := fun W => neqPtr_same (s.G.ev i) W
        go_wp2_with fail
        go_quiet (fail)
        obtain ⟨w2, hw2⟩ : ∃ W, W = wr.drewN nq := ⟨_, rfl⟩
        have L2 : Aside (LF w2 F s nb cn eb ec pb pc db dc ob oc cB cC) := by rw [hw2]; exact toAside (L.out.drewN _)
        have HW2 : Hid (w2 = w1.drewN (q + nq)) := (by rw [hw2, HW.out, World.drewN_drewN] : w2 = w1.drewN (q + nq))
        rw [← hw2]
        clear hw2 L HW c1 c2 c3 c4 c5 hne
        have c1 := L2.out.n2 i hlt
        have c2 := L2.out.m1
        have c3 := L2.out.mp i hlt
        have c4 := L2.out.n3 i hlt
        have c5 := L2.out.m2
        have c6 := L2.out.md i hlt
        go_wp2_with fail
        go_quiet (fail)
        obtain ⟨w3, hw3⟩ : ∃ W, W = w2.drewN nq := ⟨_, rfl⟩
        have L3 : Aside (LF w3 F s nb cn eb ec pb pc db dc ob oc cB cC) := by rw [hw3]; exact toAside (L2.out.drewN _)
        obtain ⟨q3, HW3⟩ : ∃ q3, Hid (w3 = w1.drewN q3) := ⟨_, (by rw [hw3, HW2.out, World.drewN_drewN] : w3 = w1.drewN (_ + nq))⟩
        rw [← hw3]
        clear hw3 L2 HW2 c1 c2 c3 c4 c5 c6
        have c1 := L3.out.n1 i hlt
        have c2 := L3.out.m4
        have c3 := L3.out.mc i hlt
        have heq := fun n => equal_any (w3.drewN n) (s.cv i) (s.cvm i) (s.cb i) ((L3.out.r1 i hlt).drewN n) ((L3.out.r2 i hlt).drewN n) (L3.out.cb i)
        go_wp2_with fail
        go_quiet (first | (go_at_call 6; refine Calls.quiet_of (heq _)))
        obtain ⟨w4, hw4⟩ : ∃ W, W = w3.drewN nq := ⟨_, rfl⟩
        have L4 : Aside (LF w4 F s nb cn eb ec pb pc db dc ob oc cB cC) := by rw [hw4]; exact toAside (L3.out.drewN _)
        obtain ⟨q4, HW4⟩ : ∃ q4, Hid (w4 = w1.drewN q4) := ⟨_, (by rw [hw4, HW3.out, World.drewN_drewN] : w4 = w1.drewN (_ + nq))⟩
        rw [← hw4]
        clear hw4 L3 HW3 c1 c2 c3 heq
        have c1 := L4.out.m1
        have c2 := L4.out.mp i hlt
        have c3 := L4.out.n4 i hlt
        go_upto_if 117 with fail
        go_cut [8, 9] from 37 to 182 (fun v8 v9 wx => Hid (wx = w4))
        case first =>
          by_cases hp : s.G.par i = 0
          · have hj := (L4.out.wf.root i hlt hp).2
            have hb : ((s.G.par i : Int) == 0) = true := by simp [hp]
            rw [hj] at c3
            have c3' : w4.cell? ⟨nb, i * 6 + 4, none⟩ = some (.int .u32 ((i : Int) + 1)) := c3
            clear hj hp c3
            go_wp2
            go_meet
            exact (rfl : w4 = w4)
          · have hb : ((s.G.par i : Int) == 0) = false := by simp; omega
            obtain ⟨t0, t1, t2, t3⟩ := L4.out.wf.jumpUp hlt hp
            obtain ⟨j0, x1, x2, _⟩ := L4.out.wf.up 1 i hlt (by omega)
            have HJ0 : Aside (upN s.G 1 (i + 1) = j0 + 1) := x1
            have hpj : s.G.par i = j0 + 1 := by rw [← x1]; exact (upN_one s.G 0 i).symm
            have c2' : w4.cell? ⟨pb, i, none⟩ = some (.int .u32 ((j0 : Int) + 1)) := by rw [c2, hpj]; rfl
            have HT3 : Aside (upN s.G t0 (i + 1) = s.G.jmp i) := t3
            have hj0 : j0 < s.G.n := by omega
            clear hp x1 x2 hpj t3 c2
            go_wp2
            go_loopg [9] t0 (fun kx s9 wx => ∃ t j : Nat, s9 = .int .u32 ((j : Int) + 1) ∧ Aside (upN s.G (t + 1) (i + 1) = j + 1) ∧ t + 1 ≤ t0 ∧ j < s.G.n ∧ t0 - (t + 1) ≤ kx ∧ Hid (wx = w4))
            case atStart => exact ⟨0, j0, rfl, HJ0, by omega, hj0, by omega, rfl⟩
            case round =>
              obtain ⟨t, j, rfl, HJ, ht, hjn, hkx2, HX⟩ := hrel
              have d1 : wr.cell? ⟨F.mB, 1, none⟩ = some (.slice (some ⟨pb, 0, none⟩) s.G.n pc) := by rw [HX.out]; exact c1
              have d2 : wr.cell? ⟨nb, i * 6 + 4, none⟩ = some (.int .u32 (s.G.jmp i)) := by rw [HX.out]; exact c3
              have d3 : wr.cell? ⟨pb, j, none⟩ = some (.int .u32 (s.G.par j)) := by rw [HX.out]; exact L4.out.mp j hjn
              have y0 : (0 : Int) ≤ (j : Int) := by omega
              have y1 : (j : Int) < (s.G.n : Int) := by omega
              have wj : IntKind.u32.wrap (j : Int) = (j : Int) := by rw [IntKind.wrap_u32]; omega
              have b0 : (((j : Int) + 1) != 0) = true := by simp; omega
              by_cases he : s.G.jmp i = j + 1
              · have d2' : wr.cell? ⟨nb, i * 6 + 4, none⟩ = some (.int .u32 ((j : Int) + 1)) := by rw [d2, he]; rfl
                clear d2 he
                go_wp2
                go_meet
                exact HX.out
              · have he' : (((j : Int) + 1) == (s.G.jmp i : Int)) = false := by simp; omega
                have htt : t + 1 ≠ t0 := fun e => he (by rw [← HT3.out, ← e]; exact HJ.out)
                obtain ⟨j2, z1, z2, _⟩ := L4.out.wf.up (t + 1 + 1) i hlt (by omega)
                have hpj : s.G.par j = j2 + 1 := by rw [← z1]; exact (upN_snoc s.G (t + 1) (i + 1) j HJ.out).symm
                have HJ2 : Aside (upN s.G (t + 1 + 1) (i + 1) = j2 + 1) := z1
                have d3' : wr.cell? ⟨pb, j, none⟩ = some (.int .u32 ((j2 : Int) + 1)) := by rw [d3, hpj]; rfl
                clear d3 hpj z1 he
                go_wp2
                go_roundg (t0 - (t + 1 + 1))
                case measure => omega
                case rel => exact ⟨t + 1, j2, by go_num, HJ2, by omega, by omega, Nat.le_refl _, HX⟩
        case rest =>
          have HX : Hid (wc = w4) := hcut
          rename_i hK9
          refine hK9 _ _ ?_
          have L5 : Aside (LF wc F s nb cn eb ec pb pc db dc ob oc cB cC) := by rw [HX.out]; exact L4
          obtain ⟨v, lk, _, _⟩ := L5.out.has hlt
          have e0 := L5.out.g2
          have e1 := L5.out.m1
          have e2 := L5.out.mp i hlt
          have e3 := L5.out.n4 i hlt
          obtain ⟨mp, hmp⟩ : ∃ mp, mp = s.mp := ⟨_, rfl⟩
          rw [← hmp] at e0 lk
          clear hmp c1 c2 c3 L4 hcut
          by_cases hp : s.G.par i = 0
          · have hps : passG s.G i = false := by unfold passG; simp [hp]
            have hb : ((s.G.par i : Int) != 0) = false := by simp [hp]
            rw [hps] at lk
            clear hps hp
            go_wp2_with fail
            go_quiet (fail)
            go_wp2
            go_roundg (s.G.n - (i + 1))
            case measure => omega
            case rel => exact ⟨i + 1, q4 + nq, by go_num, by omega, Nat.le_refl _, (by rw [HX.out, HW4.out, World.drewN_drewN] : wc.drewN nq = w1.drewN (q4 + nq))⟩
          · have hb : ((s.G.par i : Int) != 0) = true := by simp; omega
            by_cases hj : s.G.jmp i = s.G.par i
            · have hps : passG s.G i = false := by unfold passG; simp [hj]
              have hb2 : ((s.G.jmp i : Int) != (s.G.par i : Int)) = false := by simp [hj]
              rw [hps] at lk
              clear hps hp hj
              go_wp2_with fail
              go_quiet (fail)
              go_wp2
              go_roundg (s.G.n - (i + 1))
              case measure => omega
              case rel => exact ⟨i + 1, q4 + nq, by go_num, by omega, Nat.le_refl _, (by rw [HX.out, HW4.out, World.drewN_drewN] : wc.drewN nq = w1.drewN (q4 + nq))⟩
            · have hps : passG s.G i = true := by unfold passG; simp [hp, hj]
              have hb2 : ((s.G.jmp i : Int) != (s.G.par i : Int)) = true := by simp; omega
              rw [hps] at lk
              clear hps hp hj
              go_wp2_with fail
              go_quiet (fail)
              go_wp2
              go_roundg (s.G.n - (i + 1))
              case measure => omega
              case rel => exact ⟨i + 1, q4 + nq, by go_num, by omega, Nat.le_refl _, (by rw [HX.out, HW4.out, World.drewN_drewN] : wc.drewN nq = w1.drewN (q4 + nq))⟩
      · obtain rfl : i = s.G.n := by omega
        have ht' : ¬ (s.G.n : Int) < (s.G.n : Int) := by omega
        go_wp2
        go_ret
        refine ⟨rfl, ?_⟩
        rw [HW.out]
        exact ⟨BL.out.os, BL.out.tape, BL.out.output, BL.out.size, BL.out.block⟩
  · have hl' : (512 : Int) < (len : Int) := by omega
    clear HVA HM hlen
    go_wp2
    go_ret
    exact ⟨rfl, Below.refl _ _⟩
end Go.Proofs.Ybulkxiu
