import Derived.Test.YbulkxfoMem
namespace Go.Proofs.Ybulkxfo
open Go.Shelf Go.RowKit Go.Lib Go.Sort

/-- What mergeLots leaves: a row that begins with the stable merge. -/
def Merged (w w' : World) (g c n m : Nat) (D E : Array Lot) (g' c' : Nat) (F : Array Lot) : Prop :=
  n + m ≤ c' ∧ F.size = c' ∧ RowB w' g' F ∧ (∀ t, t < n + m → some F[t]! = (mrg (ltOf cfL) (pre D n) (pre E m))[t]?) ∧ (n + m ≤ c → g' = g) ∧ KeptG w.heap.size g w w'

set_option maxHeartbeats 4000000 in
set_option maxRecDepth 1000000 in
theorem merge_any {P : Program} {k : Nat} (hk : k = 7) (T : TF P k) (F7 : P.funcs[7]? = some Yba.f7)
    (e6 : ∀ args w, (callFunc 6 args).run P w = .ok (.enter 6 args) w) (e12 : ∀ args w, (callFunc 12 args).run P w = .ok (.enter 12 args) w)
    (hcmp : ∀ (x y : Lot) (w : World), Calls P 6 #[.agg (encL x).toArray, .agg (encL y).toArray] w fun e w' => e = .returned (.int .i64 (cfL x y)) ∧ w' = (w.alloc (.cells (encL x).toArray 29)).alloc (.cells (encL y).toArray 29))
    (hgrow : ∀ (g l c n : Nat) (D : Array Lot) (w : World), RowB w g D → D.size = c → l ≤ c → l + n ≤ 3000 → c ≤ 3000 →
      Calls P 12 #[.slice (some ⟨g, 0, none⟩) l c, .int .i64 n] w fun e w' => ∃ g' c' D', e = .returned (.slice (some ⟨g', 0, none⟩) l c') ∧ Grew w w' g l c n D g' c' D')
    (g n c h m c2 : Nat) (D E : Array Lot) (w : World) (RD : RowB w g D) (RE : RowB w h E) (hgh : h ≠ g) (hD : D.size = c) (hE : E.size = c2) (hnc : n ≤ c) (hmc : m ≤ c2) (hnm : n + m ≤ 3000) (hc : c ≤ 3000) (sD : SortedIn (ltOf cfL) 0 n D) (sE : SortedIn (ltOf cfL) 0 m E) :
    Calls P 7 #[.slice (some ⟨g, 0, none⟩) n c, .slice (some ⟨h, 0, none⟩) m c2] w fun e w' => ∃ g' c' F, e = .returned (.slice (some ⟨g', 0, none⟩) (n + m) c') ∧ Merged w w' g c n m D E g' c' F := by
  have mixed := T.mixed; have t0 := T.t0; have a0 := T.a0; have z0 := T.z0; have v0 := T.v0; have t3 := T.t3; have a3 := T.a3; have z3 := T.z3; have v3 := T.v3; have t4 := T.t4; have a4 := T.a4; have z4 := T.z4; have v4 := T.v4; have t23 := T.t23; have a23 := T.a23; have z23 := T.z23; have v23 := T.v23; have aE := T.aE; have zE := T.zE
  have HK : Hid (k = 7) := hk
  have HDs : Hid (D.size = c) := hD
  have HEs : Hid (E.size = c2) := hE
  have HRD := toAside RD
  have HRE := toAside RE
  have HSD := toAside sD
  have HSE := toAside sE
  have HC := toAside hcmp
  have HG := toAside (hgrow g n c m D w RD hD hnc hnm hc)
  have hghb : Aside (h ≠ g) := hgh
  clear hk hD hE RD RE sD sE hcmp hgrow T hgh
  rcases Nat.eq_zero_or_pos m with h0 | h0
  · subst h0
    go_enter F7, Yba.ntmps7
    go_wp2
    go_ret
    refine ⟨g, c, D, rfl, by omega, HDs.out, HRD.out, fun t ht => ?_, fun _ => rfl, Nat.le_refl _, fun _ _ _ => rfl, rfl, rfl, rfl⟩
    rw [pre_zero, mrg_nil_right, pre_at D n t (by omega)]
  · have hm0 : ((m : Int) == 0) = false := by simp; omega
    go_enter F7, Yba.ntmps7
    go_wp2_with fail
    refine (HG.out).mono ?_
    rintro e w1 ⟨g', c', D', rfl, gc, gm, gR, gs, gp, gi, gb, gB⟩
    have hlt1 : (n : Int) + (m : Int) ≤ (c' : Int) := by omega
    have hlt0 : (0 : Int) ≤ (n : Int) + (m : Int) := by omega
    have htn : ((n : Int) + (m : Int)).toNat = n + m := by omega
    have HRE1 : Aside (RowB w1 h E) := HRE.out.of (gB.block _ HRE.out.lt)
    have K1 : Aside (KeptG w.heap.size g w w1) := ⟨gB.size, fun j h1 _ => gB.block j h1, gB.os, gB.tape, gB.output⟩
    have HR1 := toAside gR
    have HM1 : Aside (MB (ltOf cfL) D E n m n m D') := mb_start D E D' n m gp
    have HF1 : Hid (D'.size = c') := gs
    have hg' : Aside (g' = g ∨ w.heap.size ≤ g') := (by rcases gb with e | e; exact Or.inl e; exact Or.inr (Nat.le_of_eq e.symm) : g' = g ∨ w.heap.size ≤ g')
    have hhg : Aside (h ≠ g') := fun e => by
      have h1 := HRE.out.lt; have h2 := hghb.out; rcases gb with e1 | e1
      · exact h2 (e.trans e1)
      · omega
    have HI : Aside (n + m ≤ c → g' = g) := gi
    clear gR gs gp gb gB gi HG HRE HRD gm
    go_wp2_with fail
    go_loopg [5, 6, 7] (n + m) (fun kx s5 s6 s7 wr => ∃ (p q : Nat) (F : Array Lot) (pi qi ki : Int), s5 = .int .i64 pi ∧ s6 = .int .i64 qi ∧ s7 = .int .i64 ki ∧ pi = (p : Int) - 1 ∧ qi = (q : Int) - 1 ∧ ki = (p : Int) + (q : Int) - 1 ∧ p + q ≤ kx ∧ Hid (F.size = c') ∧ Aside (MB (ltOf cfL) D E n m p q F) ∧ Aside (RowB wr g' F) ∧ Aside (RowB wr h E) ∧ Aside (KeptG w.heap.size g w wr))
    case atStart => exact ⟨n, m, D', _, _, _, rfl, rfl, rfl, rfl, rfl, rfl, Nat.le_refl _, HF1, HM1, HR1, HRE1, K1⟩
    case round =>
      clear HR1 HRE1 K1 HM1 HF1
      obtain ⟨p, q, F, pi, qi, ki, rfl, rfl, rfl, hpi, hqi, hki, hkx, HF, HM, HR, HRE, HKp⟩ := hrel
      have hpn := HM.out.1
      have hqm := HM.out.2.1
      rcases Nat.eq_zero_or_pos q with hq | hq
      · subst hq
        obtain rfl : qi = -1 := by omega
        clear hqi hki hpi
        go_wp2
        go_ret
        exact ⟨g', c', F, rfl, gc, HF.out, HR.out, mb_end HM.out, HI.out, HKp.out⟩
      · obtain ⟨q', rfl⟩ : ∃ q', q = q' + 1 := ⟨q - 1, by omega⟩
        obtain rfl : qi = (q' : Int) := by omega
        clear hqi hq
        have q0 : (0 : Int) ≤ (q' : Int) := by omega
        have q1 : (q' : Int) < (m : Int) := by omega
        obtain ⟨K, hK⟩ : ∃ K : Nat, ki = (K : Int) := ⟨p + q', by omega⟩
        subst hK
        have HKK : Hid (K = p + q') := (by omega : K = p + q')
        have k0 : (0 : Int) ≤ (K : Int) := by omega
        have k1 : (K : Int) < ((n + m : Nat) : Int) := by omega
        have hKF : Aside (K < F.size) := (by rw [HF.out]; omega : K < F.size)
        have hqE : Aside (q' < E.size) := (by rw [HEs.out]; omega : q' < E.size)
        have hFnm : Aside (n + m ≤ F.size) := (by rw [HF.out]; exact gc : n + m ≤ F.size)
        have hkx2 : p + q' < gk := by omega
        clear hki hkx
        rcases Nat.eq_zero_or_pos p with hp | hp
        · obtain rfl : pi = -1 := by omega
          clear hpi
          go_wp2_with fail
          go_big_region_o
          have HR2 : Aside (RowB wr.drew g' F) := HR.out
          have HR2E : Aside (RowB wr.drew h E) := HRE.out
          have HK2 : Aside (KeptG w.heap.size g w wr.drew) := HKp.out
          generalize wr.drew = w2 at *
          have l9 := HR2E.out.ld P HK.out q' hqE.out
          have s9 := HR2.out.st P HK.out K hKF.out E[q']!
          have n9 : (encL E[q']!).length = k := (len_encL _).trans HK.out.symm
          have R3 : Aside (RowB (w2.setCells g' (K * k) (encL E[q']!)) g' (F.setIfInBounds K E[q']!)) := HR2.out.stored HK.out K hKF.out _
          have R3E : Aside (RowB (w2.setCells g' (K * k) (encL E[q']!)) h E) := HR2E.out.of (stored_other _ _ _ _ _ hhg.out)
          have K3 : Aside (KeptG w.heap.size g w (w2.setCells g' (K * k) (encL E[q']!))) := HK2.out.stored hg'.out _ _
          have M3 : Aside (MB (ltOf cfL) D E n m p q' (F.setIfInBounds K E[q']!)) := by
            rw [HKK.out]; exact mb_le swoL HM.out HSD.out HSE.out hFnm.out (.inl hp)
          have F3 : Hid ((F.setIfInBounds K E[q']!).size = c') := (Array.size_setIfInBounds ..).trans HF.out
          generalize F.setIfInBounds K E[q']! = F3' at *
          generalize encL E[q']! = cE at *
          clear HR2 HR2E HK2
          go_wp2_with fail
          clear l9 s9
          generalize w2.setCells g' (K * k) cE = w3 at *
          go_wp2
          go_roundg (p + q')
          case measure => omega
          case rel => exact ⟨p, q', F3', _, _, _, rfl, rfl, rfl, by omega, by omega, by have := HKK.out; omega, Nat.le_refl _, F3, M3, R3, R3E, K3⟩
        · obtain ⟨p', rfl⟩ : ∃ p', p = p' + 1 := ⟨p - 1, by omega⟩
          obtain rfl : pi = (p' : Int) := by omega
          clear hpi hp
          have p0 : (0 : Int) ≤ (p' : Int) := by omega
          have p1 : (p' : Int) < (n : Int) + (m : Int) := by omega
          have hpF : Aside (p' < F.size) := (by rw [HF.out]; omega : p' < F.size)
          have HPD : Hid (F[p']! = D[p']!) := HM.out.2.2.1 p' (by omega)
          have l1 := fun n os => (HR.out.grown n os).ld P HK.out p' hpF.out
          rw [HPD.out] at l1
          have l2 := fun n os => (HRE.out.grown n os).ld P HK.out q' hqE.out
          have hc := cmp_grown HC.out wr D[p']! E[q']!
          have HGT := toAside (gt_iff D[p']! E[q']!)
          by_cases hv : cfL D[p']! E[q']! > 0
          · have hgt : Aside (ltOf cfL E[q']! D[p']! = true) := HGT.out.1 hv
            have hd : decide (0 < cfL D[p']! E[q']!) = true := decide_eq_true hv
            go_wp2_with fail
            go_quiet_grown (first | (go_at_call 6; refine Calls.grown_of (hc _ _)))
            have HR2 : Aside (RowB (grow (wr.drewN nq) osq) g' F) := HR.out.grown nq osq
            have HR2E : Aside (RowB (grow (wr.drewN nq) osq) h E) := HRE.out.grown nq osq
            have HK2 : Aside (KeptG w.heap.size g w (grow (wr.drewN nq) osq)) := HKp.out.grown (Nat.le_refl _) nq osq
            clear l1 l2 hc HR HRE HKp
            generalize grow (wr.drewN nq) osq = w2 at *
            clear nq osq
            have l9 := HR2.out.ld P HK.out p' hpF.out
            rw [HPD.out] at l9
            have s9 := HR2.out.st P HK.out K hKF.out D[p']!
            have n9 : (encL D[p']!).length = k := (len_encL _).trans HK.out.symm
            have R3 : Aside (RowB (w2.setCells g' (K * k) (encL D[p']!)) g' (F.setIfInBounds K D[p']!)) := HR2.out.stored HK.out K hKF.out _
            have R3E : Aside (RowB (w2.setCells g' (K * k) (encL D[p']!)) h E) := HR2E.out.of (stored_other _ _ _ _ _ hhg.out)
            have K3 : Aside (KeptG w.heap.size g w (w2.setCells g' (K * k) (encL D[p']!))) := HK2.out.stored hg'.out _ _
            have M3 : Aside (MB (ltOf cfL) D E n m p' (q' + 1) (F.setIfInBounds K D[p']!)) := by
              rw [show K = p' + q' + 1 by have := HKK.out; omega]; exact mb_gt swoL HM.out HSD.out HSE.out hFnm.out hgt.out
            have F3 : Hid ((F.setIfInBounds K D[p']!).size = c') := (Array.size_setIfInBounds ..).trans HF.out
            generalize F.setIfInBounds K D[p']! = F3' at *
            generalize encL D[p']! = cE at *
            clear HR2 HR2E HK2
            go_wp2_with fail
            clear l9 s9
            generalize w2.setCells g' (K * k) cE = w3 at *
            go_wp2
            go_roundg (p' + (q' + 1))
            case measure => omega
            case rel => exact ⟨p', q' + 1, F3', _, _, _, rfl, rfl, rfl, by omega, by omega, by have := HKK.out; omega, Nat.le_refl _, F3, M3, R3, R3E, K3⟩
          · have hle : Aside (ltOf cfL E[q']! D[p']! = false) := (by
              cases hcc : ltOf cfL E[q']! D[p']! with
              | false => rfl
              | true => exact absurd (HGT.out.2 hcc) hv : ltOf cfL E[q']! D[p']! = false)
            have hd : decide (0 < cfL D[p']! E[q']!) = false := decide_eq_false hv
            go_wp2_with fail
            go_quiet_grown (first | (go_at_call 6; refine Calls.grown_of (hc _ _)))
            have HR2 : Aside (RowB (grow (wr.drewN nq) osq) g' F) := HR.out.grown nq osq
            have HR2E : Aside (RowB (grow (wr.drewN nq) osq) h E) := HRE.out.grown nq osq
            have HK2 : Aside (KeptG w.heap.size g w (grow (wr.drewN nq) osq)) := HKp.out.grown (Nat.le_refl _) nq osq
            clear l1 l2 hc HR HRE HKp
            generalize grow (wr.drewN nq) osq = w2 at *
            clear nq osq
            have l9 := HR2E.out.ld P HK.out q' hqE.out
            have s9 := HR2.out.st P HK.out K hKF.out E[q']!
            have n9 : (encL E[q']!).length = k := (len_encL _).trans HK.out.symm
            have R3 : Aside (RowB (w2.setCells g' (K * k) (encL E[q']!)) g' (F.setIfInBounds K E[q']!)) := HR2.out.stored HK.out K hKF.out _
            have R3E : Aside (RowB (w2.setCells g' (K * k) (encL E[q']!)) h E) := HR2E.out.of (stored_other _ _ _ _ _ hhg.out)
            have K3 : Aside (KeptG w.heap.size g w (w2.setCells g' (K * k) (encL E[q']!))) := HK2.out.stored hg'.out _ _
            have M3 : Aside (MB (ltOf cfL) D E n m (p' + 1) q' (F.setIfInBounds K E[q']!)) := by
              rw [HKK.out]; exact mb_le swoL HM.out HSD.out HSE.out hFnm.out (.inr (by rw [Nat.add_sub_cancel]; exact hle.out))
            have F3 : Hid ((F.setIfInBounds K E[q']!).size = c') := (Array.size_setIfInBounds ..).trans HF.out
            generalize F.setIfInBounds K E[q']! = F3' at *
            generalize encL E[q']! = cE at *
            clear HR2 HR2E HK2
            go_wp2_with fail
            clear l9 s9
            generalize w2.setCells g' (K * k) cE = w3 at *
            go_wp2
            go_roundg (p' + 1 + q')
            case measure => omega
            case rel => exact ⟨p' + 1, q', F3', _, _, _, rfl, rfl, rfl, by omega, by omega, by have := HKK.out; omega, Nat.le_refl _, F3, M3, R3, R3E, K3⟩

/-- mergeLots, at this program. -/
theorem mergeLots_any (g n c h m c2 : Nat) (D E : Array Lot) (w : World) (RD : RowB w g D) (RE : RowB w h E) (hgh : h ≠ g) (hD : D.size = c) (hE : E.size = c2) (hnc : n ≤ c) (hmc : m ≤ c2) (hnm : n + m ≤ 3000) (hc : c ≤ 3000) (sD : SortedIn (ltOf cfL) 0 n D) (sE : SortedIn (ltOf cfL) 0 m E) :
    Calls Yba.prog 7 #[.slice (some ⟨g, 0, none⟩) n c, .slice (some ⟨h, 0, none⟩) m c2] w fun e w' => ∃ g' c' F, e = .returned (.slice (some ⟨g', 0, none⟩) (n + m) c') ∧ Merged w w' g c n m D E g' c' F :=
  merge_any rfl tf Yba.func7 (enters_of Yba.func6 (by kernel_rfl) rfl) (enters_of Yba.func12 (by kernel_rfl) rfl) cmp_lots grow_any g n c h m c2 D E w RD RE hgh hD hE hnc hmc hnm hc sD sE
end Go.Proofs.Ybulkxfo
