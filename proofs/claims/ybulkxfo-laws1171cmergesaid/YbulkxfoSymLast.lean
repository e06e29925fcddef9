import Derived.Test.YbulkxfoSymOne
import Derived.Deep.Cut
namespace Go.Proofs.Ybulkxfo
open Go.Shelf Go.RowKit Go.Lib Go.Sort
variable {P : Program} {α : Type} [Inhabited α]
/-- The first t of the exchanges that carry data[m] to the left. -/
def shr (m : Nat) : Nat → Array α → Array α
  | 0, d => d
  | t + 1, d => swp (shr m t d) (m - t) (m - t - 1)
theorem size_shr (m t : Nat) (d : Array α) : (shr m t d).size = d.size := by
  induction t with
  | zero => rfl
  | succ t ih => rw [shr, size_swp, ih]

set_option maxHeartbeats 4000000 in
set_option maxRecDepth 1000000 in
theorem sym_last {k : Nat} (T : TF P k) (F : P.funcs[17]? = some Yba.f17) (enc : α → List Value) (cf : α → α → Int) (g : Nat) (cb : Array Value) (blk off cap a m b n : Nat) (d0 d : Array α) (w0 w : World)
    (eg : ∀ args w, (callFunc g args).run P w = .ok (.enter g args) w) (hcmp : CmpLays P g cb enc k cf blk off d0.size w0) (R : RowK enc k w0 blk off d0) (hs : d.size = d0.size) (hn : n = d0.size) (S : SWK enc k w0 blk off d w) (hma : a + 1 < m) (hmb : b = m + 1) (hbn : b ≤ n) (hsz : n < 4611686018427387904) :
    Calls P 17 #[.slice (some ⟨blk, off, none⟩) n cap, .int .i64 a, .int .i64 m, .int .i64 b, .func (.func g) #[] cb] w fun e w' => e = .returned (.tuple #[]) ∧
      ∃ i, a ≤ i ∧ i ≤ m ∧ (i = a ∨ ltOf cf d[m]! d[i - 1]! = false) ∧ (i = m ∨ ltOf cf d[m]! d[i]! = true) ∧ SWK enc k w0 blk off (shr m (m - i) d) w' := by
  have mixed := T.mixed; have t0 := T.t0; have a0 := T.a0; have z0 := T.z0; have v0 := T.v0; have t3 := T.t3; have a3 := T.a3; have z3 := T.z3; have v3 := T.v3; have t4 := T.t4; have a4 := T.a4; have z4 := T.z4; have v4 := T.v4; have t23 := T.t23; have a23 := T.a23; have z23 := T.z23; have v23 := T.v23; have t25 := T.t25; have a25 := T.a25; have z25 := T.z25; have v25 := T.v25; have t45 := T.t45; have a45 := T.a45; have z45 := T.z45; have v45 := T.v45; have aE := T.aE; have zE := T.zE
  have S0 : Aside (SWK enc k w0 blk off d w) := S
  have HC : Aside _ := hcmp
  have HN : Hid (n = d0.size) := hn
  have HD : Hid (d.size = d0.size) := hs
  have hdn : d.size = n := by omega
  have HDN : Hid (d.size = n) := hdn
  have e1 : ((m : Int) - (a : Int) == 1) = false := by simp; omega
  have e2 : ((b : Int) - (m : Int) == 1) = true := by simp; omega
  have hmb' : m < b := by omega
  have ham : a < m := by omega
  clear S T hcmp hn hs hdn hmb
  go_enter F, Yba.ntmps17
  go_wp2
  go_loopg [14, 15] (m - a) (fun kx s14 s15 wr => ∃ (i j : Nat), s14 = .int .i64 i ∧ s15 = .int .i64 j ∧ a ≤ i ∧ i ≤ j ∧ j ≤ m ∧ j - i ≤ kx ∧ Aside (i = a ∨ ltOf cf d[m]! d[i - 1]! = false) ∧ Aside (j = m ∨ ltOf cf d[m]! d[j]! = true) ∧ Aside (SWK enc k w0 blk off d wr))
  case atStart => exact ⟨a, m, rfl, rfl, Nat.le_refl _, by omega, Nat.le_refl _, by omega, Or.inl rfl, Or.inl rfl, S0⟩
  case round =>
    clear S0
    obtain ⟨i, j, rfl, rfl, hi, hij, hj, hkx, HI, HJ, S1⟩ := hrel
    by_cases hlt : i < j
    · have hlt' : (i : Int) < (j : Int) := by omega
      obtain ⟨h, hh, h1, h2⟩ : ∃ h : Nat, ((i : Int) + (j : Int)) / 2 = (h : Int) ∧ i ≤ h ∧ h < j := ⟨(i + j) / 2, by omega, by omega, by omega⟩
      have hu : IntKind.u64.wrap ((i : Int) + (j : Int)) = (i : Int) + (j : Int) := by rw [IntKind.wrap_u64]; omega
      have pa : (0 : Int) ≤ (h : Int) := by omega
      have ba : (h : Int) < (n : Int) := by omega
      have pc : (0 : Int) ≤ (m : Int) := by omega
      have bc : (m : Int) < (n : Int) := by omega
      obtain ⟨x, hx⟩ : ∃ x, x = d[m]! := ⟨_, rfl⟩
      obtain ⟨y, hy⟩ : ∃ x, x = d[h]! := ⟨_, rfl⟩
      have l1 := S1.out.ld R HD.out P m (by rw [HDN.out]; omega)
      have l2 := S1.out.ld R HD.out P h (by rw [HDN.out]; omega)
      rw [← hx] at l1
      rw [← hy] at l2
      have hc := S1.out.cmp HC.out HD.out x y
      have HX : Hid (x = d[m]!) := hx
      have HY : Hid (y = d[h]!) := hy
      clear hx hy
      by_cases hv : cf x y < 0
      · have hd : decide (cf x y < 0) = true := decide_eq_true hv
        go_wp2_with fail
        go_quiet_grown (first | (go_at_fn g; refine Calls.grown_of (hc _ _)))
        have S2 : Aside (SWK enc k w0 blk off d (grow (wr.drewN nq) osq)) := S1.out.grown nq osq
        clear l1 l2 hc S1
        generalize grow (wr.drewN nq) osq = w2 at S2 ⊢
        clear nq osq
        go_wp2
        go_roundg (h - i)
        case measure => omega
        case rel => exact ⟨i, h, rfl, by go_num, hi, by omega, by omega, Nat.le_refl _, HI, Or.inr (by rw [← HX.out, ← HY.out]; exact decide_eq_true hv), S2⟩
      · have hd : decide (cf x y < 0) = false := decide_eq_false hv
        go_wp2_with fail
        go_quiet_grown (first | (go_at_fn g; refine Calls.grown_of (hc _ _)))
        have S2 : Aside (SWK enc k w0 blk off d (grow (wr.drewN nq) osq)) := S1.out.grown nq osq
        clear l1 l2 hc S1
        generalize grow (wr.drewN nq) osq = w2 at S2 ⊢
        clear nq osq
        go_wp2
        go_roundg (j - (h + 1))
        case measure => omega
        case rel => exact ⟨h + 1, j, by go_num, rfl, by omega, by omega, hj, Nat.le_refl _, Or.inr (by rw [Nat.add_sub_cancel, ← HX.out, ← HY.out]; exact decide_eq_false (by omega)), HJ, S2⟩
    · obtain rfl : i = j := by omega
      go_wp2_with fail
      go_loopg [17] (m - i) (fun kx s17 wr2 => ∃ q : Nat, s17 = .int .i64 q ∧ i ≤ q ∧ q ≤ m ∧ q - i ≤ kx ∧ Aside (SWK enc k w0 blk off (shr m (m - q) d) wr2))
      case atStart => exact ⟨m, rfl, by omega, Nat.le_refl _, by omega, by rw [Nat.sub_self]; exact S1⟩
      case round =>
        clear S1
        obtain ⟨q, rfl, hqi, hqm, hkt, S1⟩ := hrel
        by_cases hlt2 : i < q
        · have hl : (i : Int) < (q : Int) := by omega
          obtain ⟨r, rfl⟩ : ∃ r, q = r + 1 := ⟨q - 1, by omega⟩
          have e1 : ((r : Int) + 1).toNat = r + 1 := by omega
          have p1 : (0 : Int) ≤ (r : Int) + 1 := by omega
          have b1 : (r : Int) + 1 < (n : Int) := by omega
          have p0 : (0 : Int) ≤ (r : Int) := by omega
          have b0 : (r : Int) < (n : Int) := by omega
          have r0 : IntKind.i64.wrap (r : Int) = (r : Int) := by rw [IntKind.wrap_i64]; omega
          have r1 : IntKind.i64.wrap ((r : Int) + 1) = (r : Int) + 1 := by rw [IntKind.wrap_i64]; omega
          have hl' : (i : Int) < (r : Int) + 1 := by omega
          have hds : (shr m (m - (r + 1)) d).size = d0.size := (size_shr m (m - (r + 1)) d).trans HD.out
          have hdn : (shr m (m - (r + 1)) d).size = n := by rw [hds, HN.out]
          have HNX : Hid (shr m (m - r) d = swp (shr m (m - (r + 1)) d) (r + 1) r) := by
            show _ = _
            rw [show m - r = (m - (r + 1)) + 1 by omega, shr, show m - (m - (r + 1)) = r + 1 by omega, show r + 1 - 1 = r by omega]
          generalize shr m (m - (r + 1)) d = dk at S1 hds hdn HNX
          have S2 : Aside (SWK enc k w0 blk off (swp dk (r + 1) r) ((wr.drew.setCells blk (off + (r + 1) * k) (enc dk[r]!)).setCells blk (off + r * k) (enc dk[r + 1]!))) := S1.out.swapped R (r + 1) r (by omega) (by omega)
          have l44a := S1.out.ld1 R hds P (r + 1) (by omega)
          have l44b := S1.out.ld1 R hds P r (by omega)
          have s44a := S1.out.st1 R hds P (r + 1) (by omega) dk[r]!
          have s44b := S1.out.st2 R hds P (r + 1) r (by omega) (by omega) dk[r]! dk[r + 1]!
          have n44a : (enc dk[r + 1]!).length = k := R.hk _
          have n44b : (enc dk[r]!).length = k := R.hk _
          generalize enc dk[r + 1]! = cI44 at S2 l44a s44b n44a
          generalize enc dk[r]! = cJ44 at S2 l44b s44a s44b n44b
          clear S1 hds hdn
          go_wp2_with fail
          go_big_region_o
          clear l44a l44b s44a s44b
          generalize (wr.drew.setCells blk (off + (r + 1) * k) cJ44).setCells blk (off + r * k) cI44 = w2 at S2 ⊢
          go_wp2
          go_roundg (r - i)
          case measure => omega
          case rel => exact ⟨r, by first | rfl | go_num, by omega, by omega, Nat.le_refl _, by rw [HNX.out]; exact S2⟩
        · obtain rfl : q = i := by omega
          go_wp2
          refine bodyPost_ret (results_none rfl _ _ _) rfl ?_
          exact ⟨rfl, q, hi, hj, HI.out, HJ.out, S1.out⟩
end Go.Proofs.Ybulkxfo
