import Derived.Test.YbulkxfoWant
import Derived.Deep.AppendLies
namespace Go.Proofs.Ybulkxfo
open Go.Shelf Go.RowKit Go.Lib Go.Sort

theorem news7 (x : Lot) (w : World) (e : TypeId) : ∀ j u, (encL x)[j]? = some u → (w.alloc (.cells (encL x).toArray e)).cell? ((⟨w.heap.size, 0, none⟩ : Addr).add j) = some u := fun j u hu => by
  rw [show (⟨w.heap.size, 0, none⟩ : Addr).add j = ⟨w.heap.size, j, none⟩ by unfold Addr.add; split <;> simp_all]
  rw [cell_of_row _ w.heap.size j (encL x).toArray e (0, 0) (heap_alloc_new _ _)]
  simpa using hu

theorem below_grown {B : Nat} {a w : World} (h : RowKit.Below B a w) (hB : B ≤ w.heap.size) (n : Nat) (os : Array Obj) : RowKit.Below B a (grow (w.drewN n) os) :=
  ⟨h.os, h.tape, h.output, by rw [Sort.size_grow]; exact Nat.le_trans h.size (Nat.le_add_right _ _), fun j hj => (Sort.heap_grow_old (w.drewN n) os (show j < w.heap.size by omega)).trans (h.block j hj)⟩

theorem wpList_bs {P : Program} {ops : Array Oper} {rest : List Oper} {o : Oper} {a : Act} {w : World} {Q : Exit → Act → World → Prop} (hgd : o.guard = none) (s : Operand) (t : TypeId)
    (ho : o.op = .buildSlice t 1 #[(0, s)]) (x : Value) (hs : a.eval s = x) (v : Value) (w' : World) (hr : (Instr.buildSlice t 1 #[(0, x)]).run P w = .ok v w') (h : wpList P ops Q rest (a.put o.dst v) w') : wpList P ops Q (o :: rest) a w :=
  wpList_plain hgd fun K hK => by
    unfold Oper.wp execOp
    simp only [ho, Sem.run_bind, Sem.run_pure, Result.andThen_ok, List.map_toArray, List.map_cons, List.map_nil, hs, hr]
    exact hK _ _ h

/-- What the walk of the law is told of P, besides TF. -/
structure MF3 (P : Program) : Prop where
  t22 : P.underlying 22 = some (.slice 34)
  a22 : ∀ w, (isAgg 22).run P w = .ok false w
  z22 : ∀ w, (Go.sizeOf 22).run P w = .ok 1 w
  t5 : P.underlying 5 = some (.int .u8)
  a5 : ∀ w, (isAgg 5).run P w = .ok false w
  z5 : ∀ w, (Go.sizeOf 5).run P w = .ok 1 w
  e5 : ∀ args w, (callFunc 5 args).run P w = .ok (.enter 5 args) w
  e6 : ∀ args w, (callFunc 6 args).run P w = .ok (.enter 6 args) w
  e7 : ∀ args w, (callFunc 7 args).run P w = .ok (.enter 7 args) w
  inf : (P.info? 29).map (fun i => (i.zero, i.size, i.bytes)) = some (some (.agg #[.string ⟨#[]⟩, .string ⟨#[]⟩, .int .i32 0, .int .i64 0, .int .i64 0, .int .i64 0, .int .i64 0]), 7, 72)
  mkS : ∀ (n c : Nat), n ≤ c → c ≤ 3000 → ∀ w, (Instr.makeSlice 23 (.int .i64 n) (.int .i64 c)).run P w = .ok (.slice (some ⟨w.heap.size, 0, none⟩) n c) (w.alloc (.cells (flatK encL 7 (mkD c)) 29))
  bs : ∀ (x : Lot) (w : World), (Instr.buildSlice 23 1 #[(0, .agg (encL x).toArray)]).run P w = .ok (.slice (some ⟨w.heap.size, 0, none⟩) 1 1) (w.alloc (.cells (encL x).toArray 29))
  ne : ∀ (x : Lot) (w : World), (Op.equalIn 10000 29 (.agg (encL x).toArray) (.agg (encL x).toArray)).run P w = .ok true w
  eg : P.eqGuardType P.depth 29 = false
  cmp : ∀ (x y : Lot) (w : World), Calls P 6 #[.agg (encL x).toArray, .agg (encL y).toArray] w fun e w' => e = .returned (.int .i64 (cfL x y)) ∧ w' = (w.alloc (.cells (encL x).toArray 29)).alloc (.cells (encL y).toArray 29)
  build : ∀ (a0 : Option Addr) (n cap : Nat) (r : Int) (w : World), IsLots w a0 n → n ≤ 1024 → 0 ≤ r → r ≤ 255 →
    Calls P 5 #[.slice a0 n cap, .int .u8 r] w fun e w' => ∃ D : Array Lot, e = .returned (.slice (some ⟨w.heap.size, 0, none⟩) n (n + (r % 8).toNat)) ∧ D.size = n + (r % 8).toNat ∧ RowB w' w.heap.size D ∧ SortedIn (ltOf cfL) 0 n D ∧ RowKit.Below w.heap.size w w'
  merge : ∀ (g n c h m c2 : Nat) (D E : Array Lot) (w : World), RowB w g D → RowB w h E → h ≠ g → D.size = c → E.size = c2 → n ≤ c → m ≤ c2 → n + m ≤ 3000 → c ≤ 3000 → SortedIn (ltOf cfL) 0 n D → SortedIn (ltOf cfL) 0 m E →
    Calls P 7 #[.slice (some ⟨g, 0, none⟩) n c, .slice (some ⟨h, 0, none⟩) m c2] w fun e w' => ∃ g' c' F, e = .returned (.slice (some ⟨g', 0, none⟩) (n + m) c') ∧ Merged w w' g c n m D E g' c' F
theorem mf3 : MF3 Yba.prog := by
  refine ⟨Yba.underlying22, ?_, ?_, Yba.underlying5, ?_, ?_, enters_of Yba.func5 (by kernel_rfl) rfl, enters_of Yba.func6 (by kernel_rfl) rfl, enters_of Yba.func7 (by kernel_rfl) rfl, Yba.info29, fun n c h1 h2 w => run_mkL n c h1 h2 w, bs29, equal29, guard29, cmp_lots, build_any, mergeLots_any⟩
  all_goals (intro w; kernel_rfl)

set_option maxHeartbeats 4000000 in
set_option maxRecDepth 1000000 in
theorem mergeLaw_any {P : Program} {k : Nat} (hk : k = 7) (T : TF P k) (M : MF3 P) (F3 : P.funcs[3]? = some Yba.f3) (a0 : Option Addr) (n cap0 : Nat) (a1 : Option Addr) (m cap1 : Nat) (r : Int) (w : World) (l0 : IsLots w a0 n) (l1 : IsLots w a1 m) (r0 : 0 ≤ r) (r1 : r ≤ 255) :
    Calls P 3 #[.slice a0 n cap0, .slice a1 m cap1, .int .u8 r] w fun e w' => e = .returned (.bool true) ∧ RowKit.Below w.heap.size w w' := by
  have mixed := T.mixed; have t0 := T.t0; have a0' := T.a0; have z0 := T.z0; have v0 := T.v0; have t3 := T.t3; have a3 := T.a3; have z3 := T.z3; have v3 := T.v3; have t4 := T.t4; have a4 := T.a4; have z4 := T.z4; have v4 := T.v4; have t23 := T.t23; have a23 := T.a23; have z23 := T.z23; have v23 := T.v23; have aE := T.aE; have zE := T.zE
  have t22 := M.t22; have a22 := M.a22; have z22 := M.z22; have t5 := M.t5; have a5 := M.a5; have z5 := M.z5; have e5 := M.e5; have e6 := M.e6; have e7 := M.e7
  have HK : Hid (k = 7) := hk
  have HM := toAside M
  clear hk T M
  by_cases hn : n ≤ 1024
  · by_cases hm : m ≤ 1024
    · have B1 := toAside (HM.out.build a0 n cap0 r w l0 hn r0 r1)
      have L1 := toAside l1
      have hn' : ¬ (1024 : Int) < (n : Int) := by omega
      have hm' : ¬ (1024 : Int) < (m : Int) := by omega
      clear l0 l1
      go_enter F3, Yba.ntmps3
      go_wp2_with fail
      refine B1.out.mono ?_
      rintro e w1 ⟨D, rfl, hD, RD, sD, b1⟩
      have B2 := toAside (HM.out.build a1 m cap1 0 w1 (L1.out.below b1) hm (by omega) (by omega))
      have RD1 := toAside RD
      have SD1 := toAside sD
      have BB1 := toAside b1
      have HD : Hid (D.size = n + (r % 8).toNat) := hD
      have hq8 : (r % 8).toNat < 8 := by omega
      generalize (r % 8).toNat = q at *
      clear RD sD b1 hD B1 L1
      go_wp2_with fail
      refine B2.out.mono ?_
      rintro e w2 ⟨E, rfl, hE, RE, sE, b2⟩
      have RD2 : Aside (RowB w2 w.heap.size D) := RD1.out.of (b2.block _ RD1.out.lt)
      have RE2 := toAside RE
      have SE2 := toAside sE
      have HE : Hid (E.size = m) := hE.trans (by rfl)
      have BB2 : Aside (RowKit.Below w.heap.size w w2) := BB1.out.trans ⟨b2.os, b2.tape, b2.output, b2.size, fun j hj => b2.block j (by have := BB1.out.size; omega)⟩
      have hab : Aside (w1.heap.size ≠ w.heap.size) := (by have := RD1.out.lt; omega : w1.heap.size ≠ w.heap.size)
      have hmk : ∀ w, (Instr.makeSlice 23 (.int .i64 0) (.int .i64 ((n : Int) + (m : Int)))).run P w = .ok (.slice (some ⟨w.heap.size, 0, none⟩) 0 (n + m)) (w.alloc (.cells (flatK encL 7 (mkD (n + m))) 29)) := HM.out.mkS 0 (n + m) (by omega) (by omega)
      clear RE sE b2 hE B2 RD1 BB1
      generalize hgA : w.heap.size = gA at *
      generalize hgB : w1.heap.size = gB at *
      have HGA : Hid (w.heap.size = gA) := hgA
      clear hgA hgB
      obtain ⟨i0, qi, qz0, qz1, qz2⟩ := info_parts HM.out.inf
      have hi := toAside qi
      have hz0 := toAside qz0
      have hz1 := toAside qz1
      have hz2 := toAside qz2
      clear qi qz0 qz1 qz2
      go_wp2_with fail
      have HO0 := toAside (OwnL.made w2 (n + m) (by omega))
      have HBr0 : Aside (RowKit.Below w2.heap.size w2 (w2.alloc (.cells (flatK encL 7 (mkD (n + m))) 29))) := (RowKit.Below.refl _ _).alloc (Nat.le_refl _) _
      have hAB : Aside (gA < w2.heap.size) := RD2.out.lt
      have hBB : Aside (gB < w2.heap.size) := RE2.out.lt
      generalize hB2 : w2.heap.size = B2 at *
      have HB2 : Hid (w2.heap.size = B2) := hB2
      clear hB2 hmk
      go_loopg [9, 10, 11] (n + m) (fun kx s9 s10 s11 wr => ∃ (i j : Nat) (l : List Lot) (g cap : Nat), s9 = .slice (some ⟨g, 0, none⟩) l.length cap ∧ s10 = .int .i64 i ∧ s11 = .int .i64 j ∧ (n - i) + (m - j) ≤ kx ∧ Aside (MF (ltOf cfL) D E n m i j l) ∧ Aside (OwnL wr B2 g cap l) ∧ Aside (RowKit.Below B2 w2 wr))
      case atStart => exact ⟨0, 0, [], B2, n + m, rfl, rfl, rfl, by omega, mf_start, HO0, HBr0⟩
      case round =>
        clear HO0 HBr0
        obtain ⟨i, j, l, g, cap, rfl, rfl, rfl, hkx, HMF, HO, HBr⟩ := hrel
        have hin := HMF.out.1
        have hjm := HMF.out.2.1
        have HL : Hid (l.length = i + j) := HMF.out.2.2.1
        have HBs : Aside (B2 ≤ wr.heap.size) := (by have := HBr.out.size; rw [HB2.out] at this; exact this : B2 ≤ wr.heap.size)
        have RDr : Aside (RowB wr gA D) := RD2.out.of (HBr.out.block _ hAB.out)
        have REr : Aside (RowB wr gB E) := RE2.out.of (HBr.out.block _ hBB.out)
        by_cases hj : j < m
        · have hj' : (j : Int) < (m : Int) := by omega
          have hj0 : (0 : Int) ≤ (j : Int) := by omega
          have hjd : decide (m ≤ j) = false := decide_eq_false (by omega)
          have HjE : Aside (j < E.size) := (by rw [HE.out]; exact hj : j < E.size)
          by_cases hi2 : i < n
          · have hi' : (i : Int) < (n : Int) := by omega
            have hi0 : (0 : Int) ≤ (i : Int) := by omega
            have HiD : Aside (i < D.size) := (by rw [HD.out]; omega : i < D.size)
            have l1 := fun n os => (RDr.out.grown n os).ld P HK.out i HiD.out
            have l2 := fun n os => (REr.out.grown n os).ld P HK.out j HjE.out
            have hc := cmp_grown HM.out.cmp wr D[i]! E[j]!
            have HGT := toAside (gt_iff D[i]! E[j]!)
            by_cases hv : cfL D[i]! E[j]! ≤ 0
            · have hle : Aside (ltOf cfL E[j]! D[i]! = false) := (by
                cases hcc : ltOf cfL E[j]! D[i]! with
                | false => rfl
                | true => have := HGT.out.2 hcc; omega : ltOf cfL E[j]! D[i]! = false)
              have hd : decide (cfL D[i]! E[j]! ≤ 0) = true := decide_eq_true hv
              clear hv
              go_wp2_with fail
              go_quiet_grown (first | (go_at_call 6; refine Calls.grown_of (hc _ _)))
              have HO2 : Aside (OwnL (grow (wr.drewN nq) osq) B2 g cap l) := HO.out.of (Sort.heap_grow_old _ osq HO.out.lt.2)
              have HBr2 : Aside (RowKit.Below B2 w2 (grow (wr.drewN nq) osq)) := below_grown HBr.out HBs.out nq osq
              have HB2s : Aside (B2 ≤ (grow (wr.drewN nq) osq).heap.size) := (by rw [Sort.size_grow]; exact Nat.le_trans HBs.out (Nat.le_add_right _ _) : B2 ≤ (grow (wr.drewN nq) osq).heap.size)
              have HD3 : Aside (RowB (grow (wr.drewN nq) osq) gA D) := RDr.out.grown nq osq
              have HE3 : Aside (RowB (grow (wr.drewN nq) osq) gB E) := REr.out.grown nq osq
              clear l1 l2 hc
              generalize grow (wr.drewN nq) osq = w3 at *
              clear nq osq
              have l9 := (HD3.out).ld P HK.out i HiD.out
              have b9 := toAside (HM.out.bs D[i]!)
              have n9 : (encL D[i]!).length = k := (len_encL _).trans HK.out.symm
              go_wp2_with (first | (refine wpList_bs ?_ (.tmp 69) 23 ?_ (.agg (encL D[i]!).toArray) ?_ _ _ (b9.out w3) ?_; rfl; rfl; rfl) | (at_builtin; refine wpList_append_lies _ rfl (.tmp 65) (.tmp 70) 23 rfl B2 29 i0 _ 7 72 t23 hi.out hz0.out hz1.out hz2.out rfl (by decide) _ _ _ rfl (World.ownsRow.alloc HO2.out _) ⟨w3.heap.size, 0, none⟩ 1 1 (encL D[i]!) rfl rfl (news7 D[i]! w3 29) (one_encL D[i]!) (by omega) (by unfold maxLen; have := HL.out; omega) (by have := HL.out; omega) (by have := HB2s.out; simp; omega) _ rfl ?_; intro g4 c4 w4 ho4 hgr4 hat4 hlt4; have HO4 : Aside (OwnL w4 B2 g4 c4 (l ++ [D[i]!])) := OwnL.snoc ho4; have HB4 : Aside (RowKit.Below B2 w2 w4) := (HBr2.out.alloc HB2s.out _).grown hgr4 (by have := HB2s.out; simp; omega) (fun j hj => (World.ownsRow.lt HO2.out j hj).1); clear ho4 hgr4 hat4 hlt4))
              clear l9 b9
              go_roundg ((n - (i + 1)) + (m - j))
              case measure => omega
              case rel => exact ⟨i + 1, j, l ++ [D[i]!], g4, c4, by rw [List.length_append]; rfl, by go_num, rfl, Nat.le_refl _, mf_a HMF.out (by omega) (.inr ⟨by omega, hle.out⟩), HO4, HB4⟩
            · have hgt : Aside (ltOf cfL E[j]! D[i]! = true) := HGT.out.1 (by omega)
              have hd : decide (cfL D[i]! E[j]! ≤ 0) = false := decide_eq_false hv
              clear hv
              go_wp2_with fail
              go_quiet_grown (first | (go_at_call 6; refine Calls.grown_of (hc _ _)))
              have HO2 : Aside (OwnL (grow (wr.drewN nq) osq) B2 g cap l) := HO.out.of (Sort.heap_grow_old _ osq HO.out.lt.2)
              have HBr2 : Aside (RowKit.Below B2 w2 (grow (wr.drewN nq) osq)) := below_grown HBr.out HBs.out nq osq
              have HB2s : Aside (B2 ≤ (grow (wr.drewN nq) osq).heap.size) := (by rw [Sort.size_grow]; exact Nat.le_trans HBs.out (Nat.le_add_right _ _) : B2 ≤ (grow (wr.drewN nq) osq).heap.size)
              have HD3 : Aside (RowB (grow (wr.drewN nq) osq) gA D) := RDr.out.grown nq osq
              have HE3 : Aside (RowB (grow (wr.drewN nq) osq) gB E) := REr.out.grown nq osq
              clear l1 l2 hc
              generalize grow (wr.drewN nq) osq = w3 at *
              clear nq osq
              have l9 := (HE3.out).ld P HK.out j HjE.out
              have b9 := toAside (HM.out.bs E[j]!)
              have n9 : (encL E[j]!).length = k := (len_encL _).trans HK.out.symm
              go_wp2_with (first | (refine wpList_bs ?_ (.tmp 78) 23 ?_ (.agg (encL E[j]!).toArray) ?_ _ _ (b9.out w3) ?_; rfl; rfl; rfl) | (at_builtin; refine wpList_append_lies _ rfl (.tmp 74) (.tmp 79) 23 rfl B2 29 i0 _ 7 72 t23 hi.out hz0.out hz1.out hz2.out rfl (by decide) _ _ _ rfl (World.ownsRow.alloc HO2.out _) ⟨w3.heap.size, 0, none⟩ 1 1 (encL E[j]!) rfl rfl (news7 E[j]! w3 29) (one_encL E[j]!) (by omega) (by unfold maxLen; have := HL.out; omega) (by have := HL.out; omega) (by have := HB2s.out; simp; omega) _ rfl ?_; intro g4 c4 w4 ho4 hgr4 hat4 hlt4; have HO4 : Aside (OwnL w4 B2 g4 c4 (l ++ [E[j]!])) := OwnL.snoc ho4; have HB4 : Aside (RowKit.Below B2 w2 w4) := (HBr2.out.alloc HB2s.out _).grown hgr4 (by have := HB2s.out; simp; omega) (fun j hj => (World.ownsRow.lt HO2.out j hj).1); clear ho4 hgr4 hat4 hlt4))
              clear l9 b9
              go_roundg ((n - i) + (m - (j + 1)))
              case measure => omega
              case rel => exact ⟨i, j + 1, l ++ [E[j]!], g4, c4, by rw [List.length_append]; rfl, rfl, by go_num, Nat.le_refl _, mf_b HMF.out (by omega) (.inr ⟨by omega, hgt.out⟩), HO4, HB4⟩
          · have hi' : ¬ (i : Int) < (n : Int) := by omega
            go_wp2_with fail
            go_big_region_o
            have HO2 : Aside (OwnL wr.drew B2 g cap l) := HO.out
            have HBr2 : Aside (RowKit.Below B2 w2 wr.drew) := HBr.out.drew
            have HB2s : Aside (B2 ≤ wr.drew.heap.size) := HBs.out
            have HD3 : Aside (RowB wr.drew gA D) := RDr.out
            have HE3 : Aside (RowB wr.drew gB E) := REr.out
            generalize wr.drew = w3 at *
            have l9 := (HE3.out).ld P HK.out j HjE.out
            have b9 := toAside (HM.out.bs E[j]!)
            have n9 : (encL E[j]!).length = k := (len_encL _).trans HK.out.symm
            go_wp2_with (first | (refine wpList_bs ?_ (.tmp 78) 23 ?_ (.agg (encL E[j]!).toArray) ?_ _ _ (b9.out w3) ?_; rfl; rfl; rfl) | (at_builtin; refine wpList_append_lies _ rfl (.tmp 74) (.tmp 79) 23 rfl B2 29 i0 _ 7 72 t23 hi.out hz0.out hz1.out hz2.out rfl (by decide) _ _ _ rfl (World.ownsRow.alloc HO2.out _) ⟨w3.heap.size, 0, none⟩ 1 1 (encL E[j]!) rfl rfl (news7 E[j]! w3 29) (one_encL E[j]!) (by omega) (by unfold maxLen; have := HL.out; omega) (by have := HL.out; omega) (by have := HB2s.out; simp; omega) _ rfl ?_; intro g4 c4 w4 ho4 hgr4 hat4 hlt4; have HO4 : Aside (OwnL w4 B2 g4 c4 (l ++ [E[j]!])) := OwnL.snoc ho4; have HB4 : Aside (RowKit.Below B2 w2 w4) := (HBr2.out.alloc HB2s.out _).grown hgr4 (by have := HB2s.out; simp; omega) (fun j hj => (World.ownsRow.lt HO2.out j hj).1); clear ho4 hgr4 hat4 hlt4))
            clear l9 b9
            go_roundg ((n - i) + (m - (j + 1)))
            case measure => omega
            case rel => exact ⟨i, j + 1, l ++ [E[j]!], g4, c4, by rw [List.length_append]; rfl, rfl, by go_num, Nat.le_refl _, mf_b HMF.out (by omega) (.inl (by omega)), HO4, HB4⟩
        · have hj' : ¬ (j : Int) < (m : Int) := by omega
          have hjg : (m : Int) ≤ (j : Int) := by omega
          by_cases hi2 : i < n
          · have hi' : (i : Int) < (n : Int) := by omega
            have hi0 : (0 : Int) ≤ (i : Int) := by omega
            have HiD : Aside (i < D.size) := (by rw [HD.out]; omega : i < D.size)
            go_wp2_with fail
            go_big_region_o
            have HO2 : Aside (OwnL wr.drew B2 g cap l) := HO.out
            have HBr2 : Aside (RowKit.Below B2 w2 wr.drew) := HBr.out.drew
            have HB2s : Aside (B2 ≤ wr.drew.heap.size) := HBs.out
            have HD3 : Aside (RowB wr.drew gA D) := RDr.out
            have HE3 : Aside (RowB wr.drew gB E) := REr.out
            generalize wr.drew = w3 at *
            have l9 := (HD3.out).ld P HK.out i HiD.out
            have b9 := toAside (HM.out.bs D[i]!)
            have n9 : (encL D[i]!).length = k := (len_encL _).trans HK.out.symm
            go_wp2_with (first | (refine wpList_bs ?_ (.tmp 69) 23 ?_ (.agg (encL D[i]!).toArray) ?_ _ _ (b9.out w3) ?_; rfl; rfl; rfl) | (at_builtin; refine wpList_append_lies _ rfl (.tmp 65) (.tmp 70) 23 rfl B2 29 i0 _ 7 72 t23 hi.out hz0.out hz1.out hz2.out rfl (by decide) _ _ _ rfl (World.ownsRow.alloc HO2.out _) ⟨w3.heap.size, 0, none⟩ 1 1 (encL D[i]!) rfl rfl (news7 D[i]! w3 29) (one_encL D[i]!) (by omega) (by unfold maxLen; have := HL.out; omega) (by have := HL.out; omega) (by have := HB2s.out; simp; omega) _ rfl ?_; intro g4 c4 w4 ho4 hgr4 hat4 hlt4; have HO4 : Aside (OwnL w4 B2 g4 c4 (l ++ [D[i]!])) := OwnL.snoc ho4; have HB4 : Aside (RowKit.Below B2 w2 w4) := (HBr2.out.alloc HB2s.out _).grown hgr4 (by have := HB2s.out; simp; omega) (fun j hj => (World.ownsRow.lt HO2.out j hj).1); clear ho4 hgr4 hat4 hlt4))
            clear l9 b9
            go_roundg ((n - (i + 1)) + (m - j))
            case measure => omega
            case rel => exact ⟨i + 1, j, l ++ [D[i]!], g4, c4, by rw [List.length_append]; rfl, by go_num, rfl, Nat.le_refl _, mf_a HMF.out (by omega) (.inl (by omega)), HO4, HB4⟩
          · have hi' : ¬ (i : Int) < (n : Int) := by omega
            obtain rfl : i = n := by omega
            obtain rfl : j = m := by omega
            have HLM : Hid (l = mrg (ltOf cfL) (pre D i) (pre E j)) := mf_end HMF.out
            have MG := toAside (HM.out.merge gA i (i + q) gB j j D E wr RDr.out REr.out hab.out HD.out HE.out (by omega) (Nat.le_refl _) (by omega) (by omega) SD1.out SE2.out)
            go_wp2_with fail
            refine MG.out.mono ?_
            rintro e w4 ⟨g', c', F, rfl, f1, f2, f3, f4, f5, f6⟩
            have BA : Aside (RowKit.Below gA w wr) := BB2.out.trans ⟨HBr.out.os, HBr.out.tape, HBr.out.output, HBr.out.size, fun x hx => HBr.out.block x (by have := hAB.out; omega)⟩
            have BB4 : Aside (RowKit.Below gA w w4) := f6.below BA.out (by have := hAB.out; have := HBs.out; omega) (Nat.le_refl _)
            have HO4 : Aside (OwnL w4 B2 g cap l) := HO.out.of (f6.2.1 g HO.out.lt.2 (by have := HO.out.lt.1; have := hAB.out; omega))
            have RF := toAside f3
            have HF : Hid (F.size = c') := f2
            have HFL : Aside (∀ t, t < i + j → F[t]! = l[t]!) := fun t ht => by
              have h1 := f4 t ht
              rw [← HLM.out] at h1
              have h2 : t < l.length := by rw [HL.out]; exact ht
              rw [List.getElem?_eq_getElem h2] at h1
              rw [getElem!_pos l t h2]
              exact Option.some.inj h1
            have hf1 : i + j ≤ c' := f1
            clear f1 f2 f3 f4 f5 f6 MG RDr REr BA HO HBr HMF HLM HBs
            obtain ⟨L, hL⟩ : ∃ L, l.length = L := ⟨_, rfl⟩
            have hLij : L = i + j := hL.symm.trans HL.out
            rw [hL]
            have HLL : Hid (l.length = L) := hL
            subst hLij
            clear hL HL
            go_wp2_with fail
            go_loopg [13] (i + j) (fun kx s13 wr => ∃ t : Nat, s13 = .int .i64 t ∧ t ≤ i + j ∧ i + j - t ≤ kx ∧ Aside (RowB wr g' F) ∧ Aside (OwnL wr B2 g cap l) ∧ Aside (RowKit.Below gA w wr))
            case atStart => exact ⟨0, rfl, by omega, by omega, RF, HO4, BB4⟩
            case round =>
              clear RF HO4 BB4
              obtain ⟨t, rfl, ht, hkt, RF, HO4, BB4⟩ := hrel
              by_cases hlt : t < i + j
              · have ht0 : (0 : Int) ≤ (t : Int) := by omega
                have ht1 : (t : Int) < (i : Int) + (j : Int) := by omega
                have m1 : ∀ n, Sem.run P (loadCellsFrom ⟨g', t * k, none⟩ 0 k #[]) (wr.drewN n) = .ok (encL F[t]!).toArray (wr.drewN n) := fun n => RowB.ld (w := wr.drewN n) RF.out P HK.out t (by rw [HF.out]; omega)
                have m2 : ∀ n, Sem.run P (loadCellsFrom ⟨g, t * k, none⟩ 0 k #[]) (wr.drewN n) = .ok (encL l[t]!).toArray (wr.drewN n) := fun n => OwnL.ld (w := wr.drewN n) HO4.out P HK.out t (by rw [HLL.out]; exact hlt)
                rw [HFL.out t hlt] at m1
                obtain ⟨x, hx⟩ : ∃ x, x = l[t]! := ⟨_, rfl⟩
                rw [← hx] at m1 m2
                clear hx
                have hne := HM.out.ne x
                have heg := HM.out.eg
                go_wp2_with fail
                go_quiet_o (fail)
                have RF2 : Aside (RowB (wr.drewN nq) g' F) := RF.out
                have HO5 : Aside (OwnL (wr.drewN nq) B2 g cap l) := HO4.out
                have BB5 : Aside (RowKit.Below gA w (wr.drewN nq)) := ⟨BB4.out.os, BB4.out.tape, BB4.out.output, BB4.out.size, BB4.out.block⟩
                clear m1 m2 hne heg RF HO4 BB4
                generalize wr.drewN nq = w5 at *
                go_wp2
                go_roundg (i + j - (t + 1))
                case measure => omega
                case rel => exact ⟨t + 1, by go_num, by omega, Nat.le_refl _, RF2, HO5, BB5⟩
              · have ht1 : ¬ (t : Int) < (i : Int) + (j : Int) := by omega
                go_wp2
                go_ret
                exact ⟨rfl, by rw [HGA.out]; exact BB4.out⟩
    · have hn' : ¬ (1024 : Int) < (n : Int) := by omega
      have hm' : (1024 : Int) < (m : Int) := by omega
      clear l0 l1
      go_enter F3, Yba.ntmps3
      go_wp2
      go_ret
      exact ⟨rfl, RowKit.Below.refl _ _⟩
  · have hn' : (1024 : Int) < (n : Int) := by omega
    clear l0 l1
    go_enter F3, Yba.ntmps3
    go_wp2
    go_ret
    exact ⟨rfl, RowKit.Below.refl _ _⟩
end Go.Proofs.Ybulkxfo
