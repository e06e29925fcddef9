import Derived.Test.YbulkxfoRotate
import Derived.Deep.Cut
namespace Go.Proofs.Ybulkxfo
open Go.Shelf Go.RowKit Go.Lib Go.Sort
variable {P : Program} {α : Type} [Inhabited α]
/-- The first t of the exchanges that carry data[a] to the right. -/
def shl (a : Nat) : Nat → Array α → Array α
  | 0, d => d
  | t + 1, d => swp (shl a t d) (a + t) (a + t + 1)
theorem size_shl (a t : Nat) (d : Array α) : (shl a t d).size = d.size := by
  induction t with
  | zero => rfl
  | succ t ih => rw [shl, size_swp, ih]

set_option maxHeartbeats 4000000 in
set_option maxRecDepth 1000000 in
theorem sym_one {k : Nat} (T : TF P k) (F : P.funcs[17]? = some Yba.f17) (enc : α → List Value) (cf : α → α → Int) (g : Nat) (cb : Array Value) (blk off cap a m b n : Nat) (d0 d : Array α) (w0 w : World)
    (eg : ∀ args w, (callFunc g args).run P w = .ok (.enter g args) w) (hcmp : CmpLays P g cb enc k cf blk off d0.size w0) (R : RowK enc k w0 blk off d0) (hs : d.size = d0.size) (hn : n = d0.size) (S : SWK enc k w0 blk off d w) (hm : m = a + 1) (hmb : m ≤ b) (hbn : b ≤ n) (hsz : n < 4611686018427387904) :
    Calls P 17 #[.slice (some ⟨blk, off, none⟩) n cap, .int .i64 a, .int .i64 m, .int .i64 b, .func (.func g) #[] cb] w fun e w' => e = .returned (.tuple #[]) ∧
      ∃ i, m ≤ i ∧ i ≤ b ∧ (i = m ∨ ltOf cf d[i - 1]! d[a]! = true) ∧ (i = b ∨ ltOf cf d[i]! d[a]! = false) ∧ SWK enc k w0 blk off (shl a (i - 1 - a) d) w' := by
  have mixed := T.mixed; have t0 := T.t0; have a0 := T.a0; have z0 := T.z0; have v0 := T.v0; have t3 := T.t3; have a3 := T.a3; have z3 := T.z3; have v3 := T.v3; have t4 := T.t4; have a4 := T.a4; have z4 := T.z4; have v4 := T.v4; have t23 := T.t23; have a23 := T.a23; have z23 := T.z23; have v23 := T.v23; have t25 := T.t25; have a25 := T.a25; have z25 := T.z25; have v25 := T.v25; have t45 := T.t45; have a45 := T.a45; have z45 := T.z45; have v45 := T.v45; have aE := T.aE; have zE := T.zE
  have S0 : Aside (SWK enc k w0 blk off d w) := S
  have HC : Aside _ := hcmp
  have HN : Hid (n = d0.size) := hn
  have HD : Hid (d.size = d0.size) := hs
  have hdn : d.size = n := by omega
  have HDN : Hid (d.size = n) := hdn
  have e1 : ((m : Int) - (a : Int) == 1) = true := by simp; omega
  have ham : a < m := by omega
  have HM : Hid (m = a + 1) := hm
  clear S T hcmp hn hs hdn hm
  go_enter F, Yba.ntmps17
  go_wp2
  go_loopg [10, 11] (b - m) (fun kx s10 s11 wr => ∃ (i j : Nat), s10 = .int .i64 i ∧ s11 = .int .i64 j ∧ m ≤ i ∧ i ≤ j ∧ j ≤ b ∧ j - i ≤ kx ∧ Aside (i = m ∨ ltOf cf d[i - 1]! d[a]! = true) ∧ Aside (j = b ∨ ltOf cf d[j]! d[a]! = false) ∧ Aside (SWK enc k w0 blk off d wr))
  case atStart => exact ⟨m, b, rfl, rfl, Nat.le_refl _, by omega, Nat.le_refl _, by omega, Or.inl rfl, Or.inl rfl, S0⟩
  case round =>
    clear S0
    obtain ⟨i, j, rfl, rfl, hi, hij, hj, hkx, HI, HJ, S1⟩ := hrel
    by_cases hlt : i < j
    · have hlt' : (i : Int) < (j : Int) := by omega
      obtain ⟨h, hh, h1, h2⟩ : ∃ h : Nat, ((i : Int) + (j : Int)) / 2 = (h : Int) ∧ i ≤ h ∧ h < j := ⟨(i + j) / 2, by omega, by omega, by omega⟩
      have hu : IntKind.u64.wrap ((i : Int) + (j : Int)) = (i : Int) + (j : Int) := by rw [IntKind.wrap_u64]; omega
      have pa : (0 : Int) ≤ (h : Int) := by omega
      have ba : (h : Int) < (n : Int) := by omega
      have pc : (0 : Int) ≤ (a : Int) := by omega
      have bc : (a : Int) < (n : Int) := by omega
      obtain ⟨x, hx⟩ : ∃ x, x = d[h]! := ⟨_, rfl⟩
      obtain ⟨y, hy⟩ : ∃ x, x = d[a]! := ⟨_, rfl⟩
      have l1 := S1.out.ld R HD.out P h (by rw [HDN.out]; omega)
      have l2 := S1.out.ld R HD.out P a (by rw [HDN.out]; omega)
      rw [← hx] at l1
      rw [← hy] at l2
      have hc := S1.out.cmp HC.out HD.out x y
      have HX : Hid (x = d[h]!) := hx
      have HY : Hid (y = d[a]!) := hy
      clear hx hy
      by_cases hv : cf x y < 0
      · have hd : decide (cf x y < 0) = true := decide_eq_true hv
        go_wp2_with fail
        go_quiet_grown (first | (go_at_fn g; refine Calls.grown_of (hc _ _)))
        have S2 : Aside (SWK enc k w0 blk off d (grow (wr.drewN nq) osq)) := S1.out.grown nq osq
        clear l1 l2 hc S1
        generalize grow (wr.drewN nq) osq = w2 at S2 ⊢
        clear nq osq
        go_wp2
        go_roundg (j - (h + 1))
        case measure => omega
        case rel => exact ⟨h + 1, j, by go_num, rfl, by omega, by omega, hj, Nat.le_refl _, Or.inr (by rw [Nat.add_sub_cancel, ← HX.out, ← HY.out]; exact decide_eq_true hv), HJ, S2⟩
      · have hd : decide (cf x y < 0) = false := decide_eq_false hv
        go_wp2_with fail
        go_quiet_grown (first | (go_at_fn g; refine Calls.grown_of (hc _ _)))
        have S2 : Aside (SWK enc k w0 blk off d (grow (wr.drewN nq) osq)) := S1.out.grown nq osq
        clear l1 l2 hc S1
        generalize grow (wr.drewN nq) osq = w2 at S2 ⊢
        clear nq osq
        go_wp2
        go_roundg (h - i)
        case measure => omega
        case rel => exact ⟨i, h, rfl, by go_num, hi, by omega, by omega, Nat.le_refl _, HI, Or.inr (by rw [← HX.out, ← HY.out]; exact decide_eq_false (by omega)), S2⟩
    · obtain rfl : i = j := by omega
      go_wp2_with fail
      go_loopg [13] (i - 1 - a) (fun kx s13 wr2 => ∃ q : Nat, s13 = .int .i64 q ∧ a ≤ q ∧ q ≤ i - 1 ∧ i - 1 - q ≤ kx ∧ Aside (SWK enc k w0 blk off (shl a (q - a) d) wr2))
      case atStart => exact ⟨a, rfl, Nat.le_refl _, by omega, by omega, by rw [Nat.sub_self]; exact S1⟩
      case round =>
        clear S1
        obtain ⟨q, rfl, hq, hqi, hkt, S1⟩ := hrel
        by_cases hlt2 : q < i - 1
        · have hl : (q : Int) < (i : Int) - 1 := by omega
          have e1 : ((q : Int) + 1).toNat = q + 1 := by omega
          have p1 : (0 : Int) ≤ (q : Int) + 1 := by omega
          have b1 : (q : Int) + 1 < (n : Int) := by omega
          have p0 : (0 : Int) ≤ (q : Int) := by omega
          have b0 : (q : Int) < (n : Int) := by omega
          have r1 : IntKind.i64.wrap ((q : Int) + 1) = (q : Int) + 1 := by rw [IntKind.wrap_i64]; omega
          have hds : (shl a (q - a) d).size = d0.size := (size_shl a (q - a) d).trans HD.out
          have hdn : (shl a (q - a) d).size = n := by rw [hds, HN.out]
          have HNX : Hid (shl a (q + 1 - a) d = swp (shl a (q - a) d) q (q + 1)) := by
            show _ = _
            rw [show q + 1 - a = (q - a) + 1 by omega, shl, show a + (q - a) = q by omega]
          generalize shl a (q - a) d = dk at S1 hds hdn HNX
          have S2 : Aside (SWK enc k w0 blk off (swp dk q (q + 1)) ((wr.drew.setCells blk (off + q * k) (enc dk[q + 1]!)).setCells blk (off + (q + 1) * k) (enc dk[q]!))) := S1.out.swapped R q (q + 1) (by omega) (by omega)
          have l44a := S1.out.ld1 R hds P q (by omega)
          have l44b := S1.out.ld1 R hds P (q + 1) (by omega)
          have s44a := S1.out.st1 R hds P q (by omega) dk[q + 1]!
          have s44b := S1.out.st2 R hds P q (q + 1) (by omega) (by omega) dk[q + 1]! dk[q]!
          have n44a : (enc dk[q]!).length = k := R.hk _
          have n44b : (enc dk[q + 1]!).length = k := R.hk _
          generalize enc dk[q]! = cI44 at S2 l44a s44b n44a
          generalize enc dk[q + 1]! = cJ44 at S2 l44b s44a s44b n44b
          clear S1 hds hdn
          go_wp2_with fail
          go_big_region_o
          clear l44a l44b s44a s44b
          generalize (wr.drew.setCells blk (off + q * k) cJ44).setCells blk (off + (q + 1) * k) cI44 = w2 at S2 ⊢
          go_wp2
          go_roundg (i - 1 - (q + 1))
          case measure => omega
          case rel => exact ⟨q + 1, by go_num, by omega, by omega, Nat.le_refl _, by rw [HNX.out]; exact S2⟩
        · obtain rfl : q = i - 1 := by omega
          go_wp2
          refine bodyPost_ret (results_none rfl _ _ _) rfl ?_
          exact ⟨rfl, i, hi, hj, HI.out, HJ.out, S1.out⟩
end Go.Proofs.Ybulkxfo
