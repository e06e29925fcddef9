import Derived.Test.YbulkxiuRedA
namespace Go.Proofs.Ybulkxiu
open Go.RowKit Go.Sort Go.Shelf Go.Lib
set_option maxRecDepth 100000

/-- An append of one cell to a slice of a row, in place: what lies behind it stays. -/
theorem wpList_room {P : Program} {w : World} {ops : Array Oper} {rest : List Oper} {o : Oper} {a : Act} {Q : Exit → Act → World → Prop} (hgd : o.guard = none) (s x : Operand) (t : TypeId)
    (ho : o.op = .call { callee := .builtin .append, args := #[s, x], argTypes := #[t, t] })
    (base : Nat) (e : TypeId) (i : TypeInfo) (ht : P.underlying t = some (.slice e)) (hi : P.info? e = some i) (hsize : i.size = 1)
    (g n cap : Nat) (xs : List Value) (hs : a.eval s = .slice (some ⟨g, 0, none⟩) n cap) (hown : w.ownsRow base e 1 (.slice (some ⟨g, 0, none⟩) n cap) n xs)
    (ad : Addr) (c : Nat) (u : Value) (hx : a.eval x = .slice (some ad) 1 c) (hnews : ∀ j v, [u][j]? = some v → w.cell? (ad.add j) = some v) (h1 : u.oneCell' = true) (hroom : n + 1 ≤ cap)
    (h : ∀ w', w'.ownsRow base e 1 (.slice (some ⟨g, 0, none⟩) (n + 1) cap) (n + 1) (xs ++ [u]) → w.grownBy w' (some g) → (∀ j, n < j → w'.cell? ⟨g, j, none⟩ = w.cell? ⟨g, j, none⟩) → wpList P ops Q rest (a.put o.dst (.slice (some ⟨g, 0, none⟩) (n + 1) cap)) w') : wpList P ops Q (o :: rest) a w := by
  have h1' : ∀ v ∈ [u], v.oneCell' = true := by intro v hv; simp at hv; subst hv; exact h1
  rcases hown.2 with ⟨h', _⟩ | ⟨g', cap', cur, h', hB, hg, hnc, hcm, hcs, htake⟩
  · simp at h'
  simp only [Value.slice.injEq, Option.some.injEq, Addr.mk.injEq, and_true, true_and] at h'
  obtain ⟨rfl, rfl⟩ := h'
  have hr := run_append_room (P := P) w t o.type e i ht hi g n cap cur hg ad 1 c [u] (by simp [hsize]) hnews h1' hroom (by rw [hsize]; simp; omega)
  rw [hsize] at hr
  simp only [Nat.mul_one, List.length_singleton] at hr
  have hxs : xs.length = n := by have := hown.1; omega
  have htk : cur.toList.take n = xs := by rw [← htake, Nat.mul_one]
  refine wpList_plain hgd fun K hK => ?_
  unfold Oper.wp execOp
  simp only [ho, resolve, invoke, builtin, Sem.run_bind, Sem.run_pure, Result.andThen_ok, List.map_toArray, List.map_cons, List.map_nil, hs, hx, hr]
  refine hK _ _ (h _ ⟨by simp [hxs], .inr ⟨g, cap, _, rfl, hB, setRow_heap w g cur _ e _ hg, hroom, hcm, ?_, ?_⟩⟩ ⟨rfl, rfl, rfl, by simp, fun k _ hk => setRow_other w g k _ (fun e => hk (by simp [e]))⟩ ?_)
  · simp only [List.size_toArray, List.length_append, List.length_take, List.length_drop, Array.length_toList, List.length_singleton]; omega
  · rw [htk]
    show List.take ((n + 1) * 1) (xs ++ [u] ++ _) = xs ++ [u]
    rw [show (n + 1) * 1 = (xs ++ [u]).length by simp [hxs]]
    exact List.take_left
  · intro j hj
    rw [cell_of_row _ g j _ e (0, 0) (setRow_heap w g cur _ e _ hg), cell_of_row w g j cur e (0, 0) hg]
    rw [htk]
    simp only [List.getElem?_toArray]
    rw [List.getElem?_append_right (by simp [hxs]; omega)]
    simp only [List.length_append, hxs, List.length_singleton, List.getElem?_drop, Array.getElem?_toList]
    congr 1; omega

/-- A row that can be read: nodes' numbers. -/
def ReadsRow (w : World) (B : Nat) (v : Value) (K : List Nat) : Prop :=
  (v = .slice none 0 0 ∧ K = []) ∨ ∃ b c, v = .slice (some ⟨b, 0, none⟩) K.length c ∧ K.length ≤ c ∧ B ≤ b ∧ b < w.heap.size ∧ ∀ j, j < K.length → w.cell? ⟨b, j, none⟩ = some (.int .u32 ((K.getD j 0 : Nat) + 1 : Int))
def SortedG (G : PG) (L : List Nat) : Prop := ∀ i j, i < j → j < L.length → ltOf (cfC G) (L.getD j 0) (L.getD i 0) = false

theorem grown_trans {w w' w'' : World} {row : Option Nat} (h : w.grownBy w' row) (k : w'.grownBy w'' row) : w.grownBy w'' row :=
  ⟨k.os.trans h.os, k.tape.trans h.tape, k.output.trans h.output, Nat.le_trans h.size k.size, fun b hb hn => (k.block b (Nat.lt_of_lt_of_le hb h.size) hn).trans (h.block b hb hn)⟩
theorem below_of_grown {w w' : World} {blk B : Nat} (h : w.grownBy w' (some blk)) (hb : B ≤ blk) (hB : B ≤ w.heap.size) : RowKit.Below B w w' :=
  ⟨h.os, h.tape, h.output, h.size, fun k hk => h.block k (by omega) (fun e => by cases e; omega)⟩
theorem info45s : ∃ i, Yba.prog.info? 45 = some i ∧ i.size = 1 := by
  obtain ⟨i0, qi, _, qz1, _⟩ := info_parts info45
  exact ⟨i0, qi, qz1⟩

theorem take_succD (L : List Nat) (t : Nat) (h : t < L.length) : L.take (t + 1) = L.take t ++ [L.getD t 0] := by
  rw [List.take_succ_eq_append_getElem h]; simp [List.getD, h]
theorem tyS_eq (a b : Bool) : ((tyS a).toList == (tyS b).toList) = (a == b) := by cases a <;> cases b <;> kernel_rfl
theorem kyS_eq (a b : Bool) : ((kyS a).toList == (kyS b).toList) = (a == b) := by cases a <;> cases b <;> kernel_rfl

set_option maxHeartbeats 4000000 in
theorem reduced_some (gB nb cap : Nat) (G : PG) (B : Nat) (w : World) (hG : WF G) (hn0 : 0 < G.n) (hM : GMem w gB nb cap G) (hgB : gB < B) (hnb : nb < B) (hev : ∀ k, k < G.n → G.ev k < B ∧ ∃ cs, w.heap[G.ev k]? = some (.cells cs 56 (0, 0))) (hinj : ∀ j k, j < G.n → k < G.n → G.ev j = G.ev k → j = k)
    (blk c : Nat) (x : List Nat) (hx : ∀ y ∈ x, y < G.n) (hR : w.ownsRow B 45 1 (.slice (some ⟨blk, 0, none⟩) x.length c) x.length (U32s x)) (hB : B ≤ w.heap.size) (hsz : x.length ≤ 1000000) :
    Calls Yba.prog 19 #[.pointer (some ⟨gB, 0, none⟩), .slice (some ⟨blk, 0, none⟩) x.length c] w fun e w' => ∃ v', e = .returned v' ∧ ∃ L, L.Perm x ∧ SortedG G L ∧ ReadsRow w' B v' (red G L) ∧ w.grownBy w' (some blk) ∧ v'.ownBlock = some blk := by
  have hbl := hR.lt blk rfl
  have HX := toAside hx
  have HG := toAside hG
  have HM := toAside hM
  have HE := toAside hev
  have HI := toAside hinj
  have HR := toAside hR
  have HZ := toAside hsz
  have B1 := toAside ((RowKit.Below.refl B w).alloc hB (.cells #[.pointer (some ⟨gB, 0, none⟩)] 23))
  have c1 : Aside ((w.alloc (.cells #[.pointer (some ⟨gB, 0, none⟩)] 23)).cell? ⟨w.heap.size, 0, none⟩ = some (.pointer (some ⟨gB, 0, none⟩))) := by
    show World.cell? _ _ = _
    rw [cell_of_row _ w.heap.size 0 _ 23 (0, 0) (heap_alloc_new _ _)]; rfl
  have HS := toAside (sort_row gB nb cap w.heap.size G B blk c x (w.alloc (.cells #[.pointer (some ⟨gB, 0, none⟩)] 23)) hG hn0 (hM.of fun _ _ e => (World.grownBy_alloc w _ none).cell e (by simp)) c1.out (by omega) (by omega) (by omega) (fun k hk => by have := (hev k hk).1; omega) hx (hR.alloc _) (by omega))
  clear hM hev hinj hR hx
  go_enter Yba.func19, Yba.ntmps19
  go_wp2_with fail
  refine HS.out.mono ?_
  rintro e w1 ⟨rfl, L, hp, hs, R1, gr⟩
  have HP := toAside hp
  have HSO := toAside hs
  have hlen : L.length = x.length := hp.length_eq
  have HL : Hid (L.length = x.length) := hlen
  have HLX : Aside (∀ t, t < x.length → L.getD t 0 < G.n) := fun t ht => HX.out _ (hp.subset (by simp [List.getD, show t < L.length by omega]))
  have BE : Aside (w.grownBy w1 (some blk)) := grown_trans (World.grownBy_alloc w _ _) gr
  have CB : Aside (w1.cell? ⟨w.heap.size, 0, none⟩ = some (.pointer (some ⟨gB, 0, none⟩))) := gr.cell c1.out (by simp; omega)
  have hle : x.length ≤ c := by
    rcases R1.2 with ⟨h', _⟩ | ⟨g', cap', cur, h', _, _, hnc, _⟩
    · simp at h'
    · simp only [Value.slice.injEq, Option.some.injEq, Addr.mk.injEq, and_true, true_and] at h'; omega
  have CE : Aside (∀ t, t < x.length → w1.cell? ⟨blk, t, none⟩ = some (.int .u32 ((L.getD t 0 : Nat) + 1 : Int))) := fun t ht => by
    rw [R1.cellAt t (by omega)]
    simp [U32s, U32, List.getD, show t < L.length by omega]
  have R0 : Aside (w1.ownsRow B 45 1 (.slice (some ⟨blk, 0, none⟩) 0 c) 0 (U32s [])) := by
    rcases R1.2 with ⟨h', _⟩ | ⟨g', cap', cur, h', h2, h3, hnc, h5, h6, h7⟩
    · simp at h'
    · simp only [Value.slice.injEq, Option.some.injEq, Addr.mk.injEq, and_true, true_and] at h'
      obtain ⟨rfl, rfl⟩ := h'
      exact ⟨rfl, .inr ⟨blk, c, cur, rfl, h2, h3, Nat.zero_le _, h5, h6, by simp [U32s, U32]⟩⟩
  have BL : Aside (B ≤ blk ∧ blk < w.heap.size) := hbl
  clear HS hp hs R1 gr c1 B1 HR hbl hlen
  go_wp2
  go_loopg [5, 17] x.length (fun kx s5 s17 wr => ∃ (t : Nat) (K : List Nat), s17 = .int .i64 t ∧ t ≤ x.length ∧ x.length - t ≤ kx ∧ s5 = .slice (some ⟨blk, 0, none⟩) K.length c ∧ Hid (K = red G (L.take t)) ∧ Aside (wr.ownsRow B 45 1 (.slice (some ⟨blk, 0, none⟩) K.length c) K.length (U32s K)) ∧ Aside (∀ j, t ≤ j → j < x.length → wr.cell? ⟨blk, j, none⟩ = some (.int .u32 ((L.getD j 0 : Nat) + 1 : Int))) ∧ Aside (w.grownBy wr (some blk)) ∧ Aside (wr.cell? ⟨w.heap.size, 0, none⟩ = some (.pointer (some ⟨gB, 0, none⟩))))
  case atStart => exact ⟨0, [], rfl, Nat.zero_le _, by omega, rfl, rfl, R0, fun j _ hj => CE.out j hj, BE, CB⟩
  case round =>
    clear R0 CE BE CB
    obtain ⟨t, K, rfl, htn, hkx, rfl, HK, R0, E0, G0, C0⟩ := hrel
    have B0 : Aside (RowKit.Below B w wr) := below_of_grown G0.out BL.out.1 hB
    by_cases hlt : t < x.length
    · have c0 := E0.out t (Nat.le_refl _) hlt
      have ht0 : (0 : Int) ≤ (t : Int) := by omega
      have ht1 : (t : Int) < (x.length : Int) := by omega
      obtain ⟨y, hy⟩ : ∃ y, y = L.getD t 0 := ⟨_, rfl⟩
      have hyn : y < G.n := by rw [hy]; exact HLX.out t hlt
      rw [← hy] at c0
      have HY : Hid (y = L.getD t 0) := hy
      have HTK : Aside (red G (L.take (t + 1)) = redStep G K y) := by
        show _ = _
        rw [take_succD L t (by rw [HL.out]; exact hlt), red_snoc, ← HK.out, ← HY.out]
      clear hy
      have M0 : Aside (GMem wr gB nb cap G) := by
        have hb : ∀ a v, a.block < B → w.cell? a = some v → wr.cell? a = some v := fun a v h e => (B0.out.cell (p := a) h).trans e
        have hM := HM.out
        exact ⟨hb _ _ hgB hM.g0, fun k hk => hb _ _ hnb (hM.ev k hk), fun k hk => hb _ _ hnb (hM.par k hk), fun k hk => hb _ _ hnb (hM.dep k hk), fun k hk => hb _ _ hnb (hM.jmp k hk), fun k hk => hb _ _ (HE.out k hk).1 (hM.nd k hk), fun k hk => hb _ _ (HE.out k hk).1 (hM.ty k hk), fun k hk => hb _ _ (HE.out k hk).1 (hM.ky k hk)⟩
      have HKL : Aside (K.length < c) := (by have h1 := red_len G (L.take t); rw [← HK.out] at h1; rw [List.length_take] at h1; omega : K.length < c)
      have HKT : Aside (K.length ≤ t) := (by have h1 := red_len G (L.take t); rw [← HK.out] at h1; rw [List.length_take] at h1; omega : K.length ≤ t)
      obtain ⟨i0, qi, qz⟩ := info45s
      have hi := toAside qi
      have hz := toAside qz
      clear qi qz
      cases hK : K.getLast? with
      | none =>
        obtain rfl : K = [] := List.getLast?_eq_none_iff.1 hK
        clear hK
        go_wp2_with (at_builtin; refine wpList_room rfl (.tmp 66) (.tmp 68) 41 rfl B 45 i0 Yba.underlying41 hi.out hz.out blk 0 c (U32s []) rfl (R0.out.alloc _) ⟨_, 0, none⟩ 1 (.int .u32 ((y : Int) + 1)) rfl (news1 _ _ _ _ (by simp)) rfl (by have := HKL.out; first | omega | (simp at this ⊢; omega)) ?_; intro w4 ho4 hgr4 hk4; have B4 : Aside (w.grownBy w4 (some blk)) := grown_trans (grown_trans G0.out (World.grownBy_alloc _ _ _)) hgr4; have C4 : Aside (w4.cell? ⟨w.heap.size, 0, none⟩ = some (.pointer (some ⟨gB, 0, none⟩))) := hgr4.cell ((World.grownBy_alloc _ _ none).cell C0.out (by simp)) (by have := BL.out.2; simp; omega); have E4 : Aside (∀ j, t + 1 ≤ j → j < x.length → w4.cell? ⟨blk, j, none⟩ = some (.int .u32 ((L.getD j 0 : Nat) + 1 : Int))) := (fun j hj hjn => (hk4 j (by have := HKT.out; first | omega | (simp at this; omega))).trans ((World.grownBy_alloc _ _ none).cell (E0.out j (by omega) hjn) (by simp))); have R4 := toAside ho4; clear ho4 hgr4 hk4)
        go_roundg (x.length - (t + 1))
        case measure => omega
        case rel =>
          refine ⟨t + 1, [] ++ [y], by go_num, by omega, Nat.le_refl _, ?_, ?_, ?_, E4, B4, C4⟩
          · simp
          · show _ = _; rw [HTK.out]; rfl
          · refine toAside ?_; have := R4.out; unfold U32s U32 at this ⊢; simpa using this
      | some z =>
        have hKne : K ≠ [] := fun e => by rw [e] at hK; simp at hK
        have hKpos := List.length_pos_iff.2 hKne
        obtain ⟨m, hm⟩ : ∃ m, K.length = m + 1 := ⟨K.length - 1, by omega⟩
        have hzm : K[m]? = some z := by rw [List.getLast?_eq_getElem?, hm] at hK; simpa using hK
        have HKZ : Hid (K.getLast? = some z) := hK
        have HM1 : Hid (K.length = m + 1) := hm
        have hmlt : m < K.length := by omega
        have hzn : z < G.n := by
          have h1 : z ∈ K := List.mem_of_getElem? hzm
          rw [HK.out] at h1
          have h2 := List.mem_of_mem_take (red_mem h1)
          exact HX.out z (HP.out.subset h2)
        have c2 : wr.cell? ⟨blk, m, none⟩ = some (.int .u32 ((z : Int) + 1)) := by
          rw [R0.out.cellAt m (by omega)]
          simp [U32s, U32, hzm]
        have m0 : (0 : Int) ≤ (m : Int) := by omega
        have m1 : (m : Int) < (m : Int) + 1 := by omega
        have hwm : IntKind.i64.wrap (m : Int) = m := by have := HKT.out; rw [IntKind.wrap_i64]; omega
        rw [hm]
        rw [hm] at HKL HKT
        clear hK hzm hm hmlt hKne hKpos
        have e1 : ∀ q, q < G.n → ∀ n, Calls Yba.prog 16 #[.pointer (some ⟨gB, 0, none⟩), .int .u32 ((q : Int) + 1)] (wr.drewN n) fun e w' => e = .returned (.pointer (some ⟨G.ev q, 0, none⟩)) ∧ w' = wr.drewN n := fun q hq n =>
          (event_any gB nb G.n cap q (G.ev q) (wr.drewN n) (M0.out.drewN n).g0 hq HG.out.small ((M0.out.drewN n).ev q hq)).mono fun _ _ ⟨h1, h2⟩ => ⟨h1, h2.symm⟩
        have cb := C0.out
        go_wp2_with fail
        go_quiet (first | (go_at_call 16; refine Calls.quiet_of_same (e1 _ (by assumption) _)))
        clear e1 cb c0 c2
        obtain ⟨w2, hw2⟩ : ∃ W, W = wr.drewN nq := ⟨_, rfl⟩
        have R2 : Aside (w2.ownsRow B 45 1 (.slice (some ⟨blk, 0, none⟩) K.length c) K.length (U32s K)) := by rw [hw2]; exact R0
        have E2 : Aside (∀ j, t ≤ j → j < x.length → w2.cell? ⟨blk, j, none⟩ = some (.int .u32 ((L.getD j 0 : Nat) + 1 : Int))) := by rw [hw2]; exact E0
        have B2 : Aside (RowKit.Below B w w2) := by rw [hw2]; exact (⟨B0.out.os, B0.out.tape, B0.out.output, B0.out.size, B0.out.block⟩ : RowKit.Below B w (wr.drewN nq))
        have G2 : Aside (w.grownBy w2 (some blk)) := by rw [hw2]; exact (⟨G0.out.os, G0.out.tape, G0.out.output, G0.out.size, G0.out.block⟩ : w.grownBy (wr.drewN nq) (some blk))
        have C2 : Aside (w2.cell? ⟨w.heap.size, 0, none⟩ = some (.pointer (some ⟨gB, 0, none⟩))) := by rw [hw2]; exact C0
        have M2 : Aside (GMem w2 gB nb cap G) := by rw [hw2]; exact M0.out.drewN nq
        rw [← hw2]
        clear hw2 R0 E0 B0 C0 M0
        by_cases hzy : z = y
        · have q1 := fun n => eqPtr_same (G.ev y) (w2.drewN n)
          have HDR : Aside (dropB G z y = true) := (by unfold dropB; simp [hzy] : dropB G z y = true)
          have HKZ : Hid (K.getLast? = some z) := HKZ
          clear hzn
          have Hzy : Hid (z = y) := hzy
          rw [hzy]
          clear hzy
          go_wp2_with fail
          go_quiet (fail)
          clear q1
          obtain ⟨w3, hw3⟩ : ∃ W, W = w2.drewN nq := ⟨_, rfl⟩
          have R3 : Aside (w3.ownsRow B 45 1 (.slice (some ⟨blk, 0, none⟩) K.length c) K.length (U32s K)) := by rw [hw3]; exact R2
          have E3 : Aside (∀ j, t ≤ j → j < x.length → w3.cell? ⟨blk, j, none⟩ = some (.int .u32 ((L.getD j 0 : Nat) + 1 : Int))) := by rw [hw3]; exact E2
          have B3 : Aside (RowKit.Below B w w3) := by rw [hw3]; exact (⟨B2.out.os, B2.out.tape, B2.out.output, B2.out.size, B2.out.block⟩ : RowKit.Below B w (w2.drewN nq))
          have G3 : Aside (w.grownBy w3 (some blk)) := by rw [hw3]; exact (⟨G2.out.os, G2.out.tape, G2.out.output, G2.out.size, G2.out.block⟩ : w.grownBy (w2.drewN nq) (some blk))
          have C3 : Aside (w3.cell? ⟨w.heap.size, 0, none⟩ = some (.pointer (some ⟨gB, 0, none⟩))) := by rw [hw3]; exact C2
          have M3 : Aside (GMem w3 gB nb cap G) := by rw [hw3]; exact M2.out.drewN nq
          rw [← hw3]
          clear hw3 R2 E2 B2 C2 M2
          go_wp2
          go_roundg (x.length - (t + 1))
          case measure => omega
          case rel =>
            refine ⟨t + 1, K, by go_num, by omega, Nat.le_refl _, by rw [HM1.out], ?_, R3, fun j hj hjn => E3.out j (by omega) hjn, G3, C3⟩
            show _ = _; rw [HTK.out]; unfold redStep; rw [HKZ.out]; simp only; rw [if_pos (by rw [HDR.out])]
        · have q1 : ∀ n, (binOp .eql 47 (.pointer (some ⟨G.ev z, 0, none⟩)) (.pointer (some ⟨G.ev y, 0, none⟩))).run Yba.prog (w2.drewN n) = .ok (.bool false) (w2.drewN n) := fun n => by
            obtain ⟨hz1, cz, hz2⟩ := HE.out z hzn
            obtain ⟨hy1, cy, hy2⟩ := HE.out y hyn
            exact eqPtr_other (fun e => hzy (HI.out z y hzn hyn e)) ((B2.out.block _ hz1).trans hz2) ((B2.out.block _ hy1).trans hy2)
          have cz1 := M2.out.ty z hzn
          have cy1 := M2.out.ty y hyn
          have cz2 := M2.out.ky z hzn
          have cy2 := M2.out.ky y hyn
          have cb := C2.out
          have dd := fun n => descends_any gB nb cap G (w2.drewN n) HG.out (M2.out.drewN n) z y hzn hyn
          have HZY : Aside (¬ z = y) := hzy
          clear hzy
          by_cases h1 : G.ty z = G.ty y
          · have t1 : ((tyS (G.ty z)).toList == (tyS (G.ty y)).toList) = true := by rw [tyS_eq, h1]; simp
            have T1 : Aside (G.ty z = G.ty y) := h1
            clear h1
            by_cases h2 : G.ky z = G.ky y
            · have t2 : ((kyS (G.ky z)).toList == (kyS (G.ky y)).toList) = true := by rw [kyS_eq, h2]; simp
              have T2 : Aside (G.ky z = G.ky y) := h2
              clear h2
              rw [show decide (G.dep y < G.dep z ∧ upN G (G.dep z - G.dep y) (z + 1) = y + 1) = descB G z y from rfl] at dd
              cases hd : descB G z y with
              | true =>
                have HDR : Aside (dropB G z y = true) := (by unfold dropB; rw [T1.out, T2.out, hd]; simp : dropB G z y = true)
                rw [hd] at dd
                clear hd
                go_wp2_with fail
                go_quiet (first | (go_at_call 26; refine Calls.quiet_of (dd _)))
                clear q1 dd cb cz1 cz2 cy1 cy2
                obtain ⟨w3, hw3⟩ : ∃ W, W = w2.drewN nq := ⟨_, rfl⟩
                have R3 : Aside (w3.ownsRow B 45 1 (.slice (some ⟨blk, 0, none⟩) K.length c) K.length (U32s K)) := by rw [hw3]; exact R2
                have E3 : Aside (∀ j, t ≤ j → j < x.length → w3.cell? ⟨blk, j, none⟩ = some (.int .u32 ((L.getD j 0 : Nat) + 1 : Int))) := by rw [hw3]; exact E2
                have B3 : Aside (RowKit.Below B w w3) := by rw [hw3]; exact (⟨B2.out.os, B2.out.tape, B2.out.output, B2.out.size, B2.out.block⟩ : RowKit.Below B w (w2.drewN nq))
                have G3 : Aside (w.grownBy w3 (some blk)) := by rw [hw3]; exact (⟨G2.out.os, G2.out.tape, G2.out.output, G2.out.size, G2.out.block⟩ : w.grownBy (w2.drewN nq) (some blk))
                have C3 : Aside (w3.cell? ⟨w.heap.size, 0, none⟩ = some (.pointer (some ⟨gB, 0, none⟩))) := by rw [hw3]; exact C2
                have M3 : Aside (GMem w3 gB nb cap G) := by rw [hw3]; exact M2.out.drewN nq
                rw [← hw3]
                clear hw3 R2 E2 B2 C2 M2
                go_wp2
                go_roundg (x.length - (t + 1))
                case measure => omega
                case rel =>
                  refine ⟨t + 1, K, by go_num, by omega, Nat.le_refl _, by rw [HM1.out], ?_, R3, fun j hj hjn => E3.out j (by omega) hjn, G3, C3⟩
                  show _ = _; rw [HTK.out]; unfold redStep; rw [HKZ.out]; simp only; rw [if_pos (by rw [HDR.out])]
              | false =>
                have HDR : Aside (dropB G z y = false) := (by unfold dropB; rw [T1.out, T2.out, hd]; simp [HZY.out] : dropB G z y = false)
                rw [hd] at dd
                clear hd
                go_wp2_with fail
                go_quiet (first | (go_at_call 26; refine Calls.quiet_of (dd _)))
                clear q1 dd cb cz1 cz2 cy1 cy2
                obtain ⟨w3, hw3⟩ : ∃ W, W = w2.drewN nq := ⟨_, rfl⟩
                have R3 : Aside (w3.ownsRow B 45 1 (.slice (some ⟨blk, 0, none⟩) K.length c) K.length (U32s K)) := by rw [hw3]; exact R2
                have E3 : Aside (∀ j, t ≤ j → j < x.length → w3.cell? ⟨blk, j, none⟩ = some (.int .u32 ((L.getD j 0 : Nat) + 1 : Int))) := by rw [hw3]; exact E2
                have B3 : Aside (RowKit.Below B w w3) := by rw [hw3]; exact (⟨B2.out.os, B2.out.tape, B2.out.output, B2.out.size, B2.out.block⟩ : RowKit.Below B w (w2.drewN nq))
                have G3 : Aside (w.grownBy w3 (some blk)) := by rw [hw3]; exact (⟨G2.out.os, G2.out.tape, G2.out.output, G2.out.size, G2.out.block⟩ : w.grownBy (w2.drewN nq) (some blk))
                have C3 : Aside (w3.cell? ⟨w.heap.size, 0, none⟩ = some (.pointer (some ⟨gB, 0, none⟩))) := by rw [hw3]; exact C2
                have M3 : Aside (GMem w3 gB nb cap G) := by rw [hw3]; exact M2.out.drewN nq
                rw [← hw3]
                clear hw3 R2 E2 B2 C2 M2
                rw [HM1.out] at R3
                go_wp2_with (at_builtin; refine wpList_room rfl (.tmp 66) (.tmp 68) 41 rfl B 45 i0 Yba.underlying41 hi.out hz.out blk (m + 1) c (U32s K) rfl (R3.out.alloc _) ⟨_, 0, none⟩ 1 (.int .u32 ((y : Int) + 1)) rfl (news1 _ _ _ _ (by simp)) rfl (by have := HKL.out; first | omega | (simp at this ⊢; omega)) ?_; intro w4 ho4 hgr4 hk4; have B4 : Aside (w.grownBy w4 (some blk)) := grown_trans (grown_trans G3.out (World.grownBy_alloc _ _ _)) hgr4; have C4 : Aside (w4.cell? ⟨w.heap.size, 0, none⟩ = some (.pointer (some ⟨gB, 0, none⟩))) := hgr4.cell ((World.grownBy_alloc _ _ none).cell C3.out (by simp)) (by have := BL.out.2; simp; omega); have E4 : Aside (∀ j, t + 1 ≤ j → j < x.length → w4.cell? ⟨blk, j, none⟩ = some (.int .u32 ((L.getD j 0 : Nat) + 1 : Int))) := (fun j hj hjn => (hk4 j (by have := HKT.out; first | omega | (simp at this; omega))).trans ((World.grownBy_alloc _ _ none).cell (E3.out j (by omega) hjn) (by simp))); have R4 := toAside ho4; clear ho4 hgr4 hk4)
                go_roundg (x.length - (t + 1))
                case measure => omega
                case rel =>
                  refine ⟨t + 1, K ++ [y], by go_num, by omega, Nat.le_refl _, ?_, ?_, ?_, E4, B4, C4⟩
                  · simp [HM1.out]
                  · show _ = _; rw [HTK.out]; unfold redStep; rw [HKZ.out]; simp only; rw [if_neg (by rw [HDR.out]; decide)]
                  · refine toAside ?_; have := R4.out; unfold U32s U32 at this ⊢; simpa [HM1.out] using this
            · have t2 : ((kyS (G.ky z)).toList == (kyS (G.ky y)).toList) = false := by rw [kyS_eq]; simpa using h2
              have HDR : Aside (dropB G z y = false) := (by unfold dropB; simp [HZY.out, h2] : dropB G z y = false)
              clear h2 dd
              go_wp2_with fail
              go_quiet (fail)
              clear q1 cb cz1 cz2 cy1 cy2
              obtain ⟨w3, hw3⟩ : ∃ W, W = w2.drewN nq := ⟨_, rfl⟩
              have R3 : Aside (w3.ownsRow B 45 1 (.slice (some ⟨blk, 0, none⟩) K.length c) K.length (U32s K)) := by rw [hw3]; exact R2
              have E3 : Aside (∀ j, t ≤ j → j < x.length → w3.cell? ⟨blk, j, none⟩ = some (.int .u32 ((L.getD j 0 : Nat) + 1 : Int))) := by rw [hw3]; exact E2
              have B3 : Aside (RowKit.Below B w w3) := by rw [hw3]; exact (⟨B2.out.os, B2.out.tape, B2.out.output, B2.out.size, B2.out.block⟩ : RowKit.Below B w (w2.drewN nq))
              have G3 : Aside (w.grownBy w3 (some blk)) := by rw [hw3]; exact (⟨G2.out.os, G2.out.tape, G2.out.output, G2.out.size, G2.out.block⟩ : w.grownBy (w2.drewN nq) (some blk))
              have C3 : Aside (w3.cell? ⟨w.heap.size, 0, none⟩ = some (.pointer (some ⟨gB, 0, none⟩))) := by rw [hw3]; exact C2
              have M3 : Aside (GMem w3 gB nb cap G) := by rw [hw3]; exact M2.out.drewN nq
              rw [← hw3]
              clear hw3 R2 E2 B2 C2 M2
              rw [HM1.out] at R3
              go_wp2_with (at_builtin; refine wpList_room rfl (.tmp 66) (.tmp 68) 41 rfl B 45 i0 Yba.underlying41 hi.out hz.out blk (m + 1) c (U32s K) rfl (R3.out.alloc _) ⟨_, 0, none⟩ 1 (.int .u32 ((y : Int) + 1)) rfl (news1 _ _ _ _ (by simp)) rfl (by have := HKL.out; first | omega | (simp at this ⊢; omega)) ?_; intro w4 ho4 hgr4 hk4; have B4 : Aside (w.grownBy w4 (some blk)) := grown_trans (grown_trans G3.out (World.grownBy_alloc _ _ _)) hgr4; have C4 : Aside (w4.cell? ⟨w.heap.size, 0, none⟩ = some (.pointer (some ⟨gB, 0, none⟩))) := hgr4.cell ((World.grownBy_alloc _ _ none).cell C3.out (by simp)) (by have := BL.out.2; simp; omega); have E4 : Aside (∀ j, t + 1 ≤ j → j < x.length → w4.cell? ⟨blk, j, none⟩ = some (.int .u32 ((L.getD j 0 : Nat) + 1 : Int))) := (fun j hj hjn => (hk4 j (by have := HKT.out; first | omega | (simp at this; omega))).trans ((World.grownBy_alloc _ _ none).cell (E3.out j (by omega) hjn) (by simp))); have R4 := toAside ho4; clear ho4 hgr4 hk4)
              go_roundg (x.length - (t + 1))
              case measure => omega
              case rel =>
                refine ⟨t + 1, K ++ [y], by go_num, by omega, Nat.le_refl _, ?_, ?_, ?_, E4, B4, C4⟩
                · simp [HM1.out]
                · show _ = _; rw [HTK.out]; unfold redStep; rw [HKZ.out]; simp only; rw [if_neg (by rw [HDR.out]; decide)]
                · refine toAside ?_; have := R4.out; unfold U32s U32 at this ⊢; simpa [HM1.out] using this
          · have t1 : ((tyS (G.ty z)).toList == (tyS (G.ty y)).toList) = false := by rw [tyS_eq]; simpa using h1
            have HDR : Aside (dropB G z y = false) := (by unfold dropB; simp [HZY.out, h1] : dropB G z y = false)
            clear h1 dd
            go_wp2_with fail
            go_quiet (fail)
            clear q1 cb cz1 cz2 cy1 cy2
            obtain ⟨w3, hw3⟩ : ∃ W, W = w2.drewN nq := ⟨_, rfl⟩
            have R3 : Aside (w3.ownsRow B 45 1 (.slice (some ⟨blk, 0, none⟩) K.length c) K.length (U32s K)) := by rw [hw3]; exact R2
            have E3 : Aside (∀ j, t ≤ j → j < x.length → w3.cell? ⟨blk, j, none⟩ = some (.int .u32 ((L.getD j 0 : Nat) + 1 : Int))) := by rw [hw3]; exact E2
            have B3 : Aside (RowKit.Below B w w3) := by rw [hw3]; exact (⟨B2.out.os, B2.out.tape, B2.out.output, B2.out.size, B2.out.block⟩ : RowKit.Below B w (w2.drewN nq))
            have G3 : Aside (w.grownBy w3 (some blk)) := by rw [hw3]; exact (⟨G2.out.os, G2.out.tape, G2.out.output, G2.out.size, G2.out.block⟩ : w.grownBy (w2.drewN nq) (some blk))
            have C3 : Aside (w3.cell? ⟨w.heap.size, 0, none⟩ = some (.pointer (some ⟨gB, 0, none⟩))) := by rw [hw3]; exact C2
            have M3 : Aside (GMem w3 gB nb cap G) := by rw [hw3]; exact M2.out.drewN nq
            rw [← hw3]
            clear hw3 R2 E2 B2 C2 M2
            rw [HM1.out] at R3
            go_wp2_with (at_builtin; refine wpList_room rfl (.tmp 66) (.tmp 68) 41 rfl B 45 i0 Yba.underlying41 hi.out hz.out blk (m + 1) c (U32s K) rfl (R3.out.alloc _) ⟨_, 0, none⟩ 1 (.int .u32 ((y : Int) + 1)) rfl (news1 _ _ _ _ (by simp)) rfl (by have := HKL.out; first | omega | (simp at this ⊢; omega)) ?_; intro w4 ho4 hgr4 hk4; have B4 : Aside (w.grownBy w4 (some blk)) := grown_trans (grown_trans G3.out (World.grownBy_alloc _ _ _)) hgr4; have C4 : Aside (w4.cell? ⟨w.heap.size, 0, none⟩ = some (.pointer (some ⟨gB, 0, none⟩))) := hgr4.cell ((World.grownBy_alloc _ _ none).cell C3.out (by simp)) (by have := BL.out.2; simp; omega); have E4 : Aside (∀ j, t + 1 ≤ j → j < x.length → w4.cell? ⟨blk, j, none⟩ = some (.int .u32 ((L.getD j 0 : Nat) + 1 : Int))) := (fun j hj hjn => (hk4 j (by have := HKT.out; first | omega | (simp at this; omega))).trans ((World.grownBy_alloc _ _ none).cell (E3.out j (by omega) hjn) (by simp))); have R4 := toAside ho4; clear ho4 hgr4 hk4)
            go_roundg (x.length - (t + 1))
            case measure => omega
            case rel =>
              refine ⟨t + 1, K ++ [y], by go_num, by omega, Nat.le_refl _, ?_, ?_, ?_, E4, B4, C4⟩
              · simp [HM1.out]
              · show _ = _; rw [HTK.out]; unfold redStep; rw [HKZ.out]; simp only; rw [if_neg (by rw [HDR.out]; decide)]
              · refine toAside ?_; have := R4.out; unfold U32s U32 at this ⊢; simpa [HM1.out] using this
    · obtain rfl : t = x.length := by omega
      have ht' : ¬ (x.length : Int) < (x.length : Int) := by omega
      have HKC : K.length ≤ c := by have h1 := red_len G (L.take x.length); rw [← HK.out] at h1; rw [List.length_take] at h1; omega
      go_wp2_with (go_at_call 27; refine (clip_any blk 0 K.length c wr HKC).mono ?_; rintro e w' ⟨rfl, rfl⟩)
      go_ret
      have HKe : K = red G L := by have := HK.out; rw [← HL.out, List.take_length] at this; exact this
      refine ⟨_, rfl, L, HP.out, HSO.out, ?_, G0.out, rfl⟩
      rw [← HKe]
      refine Or.inr ⟨blk, K.length, rfl, Nat.le_refl _, BL.out.1, by have := BL.out.2; have := B0.out.size; omega, fun j hj => ?_⟩
      rw [R0.out.cellAt j (by omega)]
      simp [U32s, U32, List.getD, hj]

theorem reduced_nil (gB : Nat) (w : World) : Calls Yba.prog 19 #[.pointer (some ⟨gB, 0, none⟩), .slice none 0 0] w fun e w' => e = .returned (.slice none 0 0) ∧ RowKit.Below w.heap.size w w' := by
  have B1 := toAside ((RowKit.Below.refl w.heap.size w).alloc (Nat.le_refl _) (.cells #[.pointer (some ⟨gB, 0, none⟩)] 23))
  go_enter Yba.func19, Yba.ntmps19
  go_wp2_with (go_at_call 22; refine (sort_nil _ _).mono ?_; rintro e w' ⟨rfl, rfl⟩)
  go_loopg [5, 17] 0 (fun kx s5 s17 wr => s17 = .int .i64 0 ∧ s5 = .slice none 0 0 ∧ Aside (RowKit.Below w.heap.size w wr))
  case atStart => exact ⟨rfl, rfl, B1⟩
  case round =>
    obtain ⟨rfl, rfl, B2⟩ := hrel
    go_wp2_with (go_at_call 27; refine (clip_nil _).mono ?_; rintro e w' ⟨rfl, rfl⟩)
    go_ret
    exact ⟨rfl, B2.out⟩

/-- (*authGraph).reduced -/
theorem reduced_any (gB nb cap : Nat) (G : PG) (B : Nat) (w : World) (hG : WF G) (hn0 : 0 < G.n) (hM : GMem w gB nb cap G) (hgB : gB < B) (hnb : nb < B) (hev : ∀ k, k < G.n → G.ev k < B ∧ ∃ cs, w.heap[G.ev k]? = some (.cells cs 56 (0, 0))) (hinj : ∀ j k, j < G.n → k < G.n → G.ev j = G.ev k → j = k)
    (v : Value) (x : List Nat) (hx : ∀ y ∈ x, y < G.n) (hR : w.ownsRow B 45 1 v x.length (U32s x)) (hB : B ≤ w.heap.size) (hsz : x.length ≤ 1000000) :
    Calls Yba.prog 19 #[.pointer (some ⟨gB, 0, none⟩), v] w fun e w' => ∃ v', e = .returned v' ∧ ∃ L, L.Perm x ∧ SortedG G L ∧ ReadsRow w' B v' (red G L) ∧ w.grownBy w' v.ownBlock ∧ v'.ownBlock = v.ownBlock := by
  rcases hR.2 with ⟨rfl, h0⟩ | ⟨g, c, cur, rfl, _⟩
  · refine (reduced_nil gB w).mono ?_
    rintro e w' ⟨rfl, b⟩
    have hx0 : x = [] := List.length_eq_zero_iff.1 h0
    subst hx0
    exact ⟨_, rfl, [], List.Perm.refl _, fun i j _ hj => absurd hj (by simp), Or.inl ⟨rfl, rfl⟩, ⟨b.os, b.tape, b.output, b.size, fun k hk _ => b.block k hk⟩, rfl⟩
  · exact reduced_some gB nb cap G B w hG hn0 hM hgB hnb hev hinj g c x hx hR hB hsz
end Go.Proofs.Ybulkxiu
