import Derived.Test.YbulkxfoMerge
namespace Go.Proofs.Ybulkxfo
open Go.Shelf Go.RowKit Go.Lib Go.Sort

theorem neq_same32 (a : Addr) (w : World) : (binOp .neq 32 (.pointer (some a)) (.pointer (some a))).run Yba.prog w = .ok (.bool false) w := by
  have hs : (Yba.prog.info? 29).isSome = true := by kernel_rfl
  obtain ⟨j, hte⟩ := Option.isSome_iff_exists.1 hs
  have h : ∀ d : Nat, (Op.equalIn (d + 1) 32 (.pointer (some a)) (.pointer (some a))).run Yba.prog w = .ok true w := fun d => by
    simp [Op.equalIn, run_underlying Yba.underlying32, sizeOf, typeInfo, hte, run_sameAddr_same]
  simp only [binOp]
  simp [Op.equal, Op.maxDepth, h 9999]

theorem IsLots.below {w w' : World} {a : Option Addr} {n : Nat} (h : IsLots w a n) (b : RowKit.Below w.heap.size w w') : IsLots w' a n := by
  obtain ⟨k, off, ha, hc⟩ := h
  refine ⟨k, off, fun h0 => ⟨(ha h0).1, Nat.lt_of_lt_of_le (ha h0).2 b.size⟩, fun i hi => ?_⟩
  obtain ⟨x, y, z, q0, q1, q2, hb⟩ := hc i hi
  have hk : k < w.heap.size := (ha (by omega)).2
  exact ⟨x, y, z, (b.cell (p := ⟨k, off + i * 3, none⟩) hk).trans q0, (b.cell (p := ⟨k, off + i * 3 + 1, none⟩) hk).trans q1, (b.cell (p := ⟨k, off + i * 3 + 2, none⟩) hk).trans q2, hb⟩

set_option maxHeartbeats 1600000 in
set_option maxRecDepth 100000 in
theorem inplace_any (a0 : Option Addr) (n cap0 : Nat) (a1 : Option Addr) (m cap1 : Nat) (r : Int) (w : World) (l0 : IsLots w a0 n) (l1 : IsLots w a1 m) (r0 : 0 ≤ r) (r1 : r ≤ 255) :
    Calls Yba.prog 4 #[.slice a0 n cap0, .slice a1 m cap1, .int .u8 r] w fun e w' => e = .returned (.bool true) ∧ RowKit.Below w.heap.size w w' := by
  by_cases hn : n ≤ 1024
  · by_cases hm : m ≤ 1024
    · have B1 := toAside (build_any a0 n cap0 r w l0 hn r0 r1)
      have L1 := toAside l1
      have hn' : ¬ (1024 : Int) < (n : Int) := by omega
      have hm' : ¬ (1024 : Int) < (m : Int) := by omega
      clear l0 l1
      go_enter Yba.func4, Yba.ntmps4
      go_wp2_with fail
      refine B1.out.mono ?_
      rintro e w1 ⟨D, rfl, hD, RD, sD, b1⟩
      have B2 := toAside (build_any a1 m cap1 0 w1 (L1.out.below b1) hm (by omega) (by omega))
      have RD1 := toAside RD
      have SD1 := toAside sD
      have BB1 := toAside b1
      have HD : Hid (D.size = n + (r % 8).toNat) := hD
      have hq8 : (r % 8).toNat < 8 := by omega
      generalize (r % 8).toNat = q at *
      clear RD sD b1 hD B1 L1
      go_wp2_with fail
      refine B2.out.mono ?_
      rintro e w2 ⟨E, rfl, hE, RE, sE, b2⟩
      have RD2 : Aside (RowB w2 w.heap.size D) := RD1.out.of (b2.block _ RD1.out.lt)
      have MG := toAside (mergeLots_any w.heap.size n (n + q) w1.heap.size m m D E w2 RD2.out RE (by have := RD1.out.lt; omega) HD.out (hE.trans (by rfl)) (by omega) (by omega) (by omega) (by omega) SD1.out sE)
      have BB2 : Aside (RowKit.Below w.heap.size w w2) := BB1.out.trans ⟨b2.os, b2.tape, b2.output, b2.size, fun j hj => b2.block j (by have := BB1.out.size; omega)⟩
      have hsz : Aside (w.heap.size ≤ w2.heap.size) := BB2.out.size
      clear RE sE b2 hE B2 RD1 RD2 SD1 HD BB1
      by_cases hz : n = 0
      · have hz' : ¬ (0 : Int) < (n : Int) := by omega
        have HZ : Hid (n = 0) := hz
        clear hz
        go_wp2_with fail
        refine MG.out.mono ?_
        rintro e w3 ⟨g', c', F, rfl, f1, f2, f3, f4, f5, f6⟩
        have BB3 : Aside (RowKit.Below w.heap.size w w3) := f6.below BB2.out hsz.out (Nat.le_refl _)
        clear f1 f2 f3 f4 f5 f6 MG
        go_wp2
        go_ret
        exact ⟨rfl, BB3.out⟩
      · have hz' : (0 : Int) < (n : Int) := by omega
        by_cases hq : m ≤ q
        · have hq' : (m : Int) ≤ (n : Int) + (q : Int) - (n : Int) := by omega
          go_wp2_with fail
          refine MG.out.mono ?_
          rintro e w3 ⟨g', c', F, rfl, f1, f2, f3, f4, f5, f6⟩
          have BB3 : Aside (RowKit.Below w.heap.size w w3) := f6.below BB2.out hsz.out (Nat.le_refl _)
          obtain rfl : g' = w.heap.size := f5 (by omega)
          have hne := neq_same32
          clear f1 f2 f3 f4 f5 f6 MG
          go_wp2
          go_ret
          exact ⟨rfl, BB3.out⟩
        · have hq' : ¬ (m : Int) ≤ (n : Int) + (q : Int) - (n : Int) := by omega
          go_wp2_with fail
          refine MG.out.mono ?_
          rintro e w3 ⟨g', c', F, rfl, f1, f2, f3, f4, f5, f6⟩
          have BB3 : Aside (RowKit.Below w.heap.size w w3) := f6.below BB2.out hsz.out (Nat.le_refl _)
          clear f1 f2 f3 f4 f5 f6 MG
          go_wp2
          go_ret
          exact ⟨rfl, BB3.out⟩
    · have hn' : ¬ (1024 : Int) < (n : Int) := by omega
      have hm' : (1024 : Int) < (m : Int) := by omega
      clear l0 l1
      go_enter Yba.func4, Yba.ntmps4
      go_wp2
      go_ret
      exact ⟨rfl, RowKit.Below.refl _ _⟩
  · have hn' : (1024 : Int) < (n : Int) := by omega
    clear l0 l1
    go_enter Yba.func4, Yba.ntmps4
    go_wp2
    go_ret
    exact ⟨rfl, RowKit.Below.refl _ _⟩
end Go.Proofs.Ybulkxfo
