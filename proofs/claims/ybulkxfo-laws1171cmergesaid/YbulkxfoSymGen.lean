import Derived.Test.YbulkxfoSymPlain
import Derived.Deep.Cut
namespace Go.Proofs.Ybulkxfo
open Go.Shelf Go.RowKit Go.Lib Go.Sort
variable {P : Program} {α : Type} [Inhabited α]

/-- symMerge, at two ascending stretches of N elements together or fewer. -/
def SymSpec (P : Program) (k : Nat) (enc : α → List Value) (cf : α → α → Int) (g : Nat) (cb : Array Value) (blk off cap n : Nat) (w0 : World) (N : Nat) : Prop :=
  ∀ (ai mi bi : Int) (p A B q : List α) (W : World), ai = (p.length : Nat) → mi = (p.length + A.length : Nat) → bi = (p.length + A.length + B.length : Nat) → A.length + B.length ≤ N → 0 < A.length → 0 < B.length → Asc (ltOf cf) A → Asc (ltOf cf) B →
    (p ++ (A ++ (B ++ q))).length = n → SWK enc k w0 blk off (p ++ (A ++ (B ++ q))).toArray W →
    Calls P 17 #[.slice (some ⟨blk, off, none⟩) n cap, .int .i64 ai, .int .i64 mi, .int .i64 bi, .func (.func g) #[] cb] W fun e w' => e = .returned (.tuple #[]) ∧
      ∃ Y : List α, Y.Perm (A ++ B) ∧ Asc (ltOf cf) Y ∧ SWK enc k w0 blk off (p ++ (Y ++ q)).toArray w'

set_option linter.unusedSectionVars false
theorem toAside {p : Prop} (h : p) : Aside p := h
theorem empty_or {A B : List α} (h : A.length = 0 ∨ B.length = 0) : A = [] ∨ B = [] := h.elim (fun h => Or.inl (List.eq_nil_of_length_eq_zero h)) (fun h => Or.inr (List.eq_nil_of_length_eq_zero h))
theorem regroup (p A B q : List α) (i j : Nat) : (p ++ A.take i) ++ (A.drop i ++ (B.take j ++ (B.drop j ++ q))) = p ++ (A ++ (B ++ q)) := by
  simp only [List.append_assoc]
  rw [← List.append_assoc (B.take j), List.take_append_drop, ← List.append_assoc (A.take i), List.take_append_drop]
theorem regroup_skip (p A B q : List α) (i j : Nat) (h : A.length ≤ i ∨ j = 0) : p ++ (A.take i ++ (B.take j ++ (A.drop i ++ (B.drop j ++ q)))) = p ++ (A ++ (B ++ q)) := by
  rcases h with h | rfl
  · rw [List.take_of_length_le h, List.drop_of_length_le h, List.nil_append, ← List.append_assoc (B.take j), List.take_append_drop]
  · simp only [List.take_zero, List.drop_zero, List.nil_append]
    rw [← List.append_assoc (A.take i), List.take_append_drop]
theorem perm_split (A B Y1 Y2 : List α) (i j : Nat) (h1 : Y1.Perm (A.take i ++ B.take j)) (h2 : Y2.Perm (A.drop i ++ B.drop j)) : (Y1 ++ Y2).Perm (A ++ B) := by
  refine (h1.append h2).trans ?_
  have e : A ++ B = (A.take i ++ A.drop i) ++ (B.take j ++ B.drop j) := by rw [List.take_append_drop, List.take_append_drop]
  rw [e, List.append_assoc, List.append_assoc]
  refine List.Perm.append_left _ ?_
  rw [← List.append_assoc, ← List.append_assoc]
  exact List.Perm.append_right _ List.perm_append_comm
theorem asc_one_empty {lt : α → α → Bool} {A B : List α} (hA : Asc lt A) (hB : Asc lt B) (h : A = [] ∨ B = []) : Asc lt (A ++ B) := by
  rcases h with rfl | rfl
  · simpa using hB
  · simpa using hA

set_option maxHeartbeats 4000000 in
set_option maxRecDepth 1000000 in
theorem sym_gen {k : Nat} (T : TF P k) (F17 : P.funcs[17]? = some Yba.f17) (F18 : P.funcs[18]? = some Yba.f18) (F19 : P.funcs[19]? = some Yba.f19) (enc : α → List Value) (cf : α → α → Int) (hO : SWO (ltOf cf)) (g : Nat) (cb : Array Value) (blk off cap n : Nat) (d0 : Array α) (w0 w : World)
    (eg : ∀ args w, (callFunc g args).run P w = .ok (.enter g args) w) (hcmp : CmpLays P g cb enc k cf blk off d0.size w0) (R : RowK enc k w0 blk off d0) (hn : n = d0.size) (hsz : n < 4611686018427387904)
    (N : Nat) (ih : SymSpec P k enc cf g cb blk off cap n w0 N) (p A B q : List α) (a m b : Nat) (ha : a = p.length) (hm : m = p.length + A.length) (hb : b = p.length + A.length + B.length) (hN : A.length + B.length ≤ N + 1) (hA2 : 2 ≤ A.length) (hB2 : 2 ≤ B.length) (hA : Asc (ltOf cf) A) (hB : Asc (ltOf cf) B)
    (hl : (p ++ (A ++ (B ++ q))).length = n) (S : SWK enc k w0 blk off (p ++ (A ++ (B ++ q))).toArray w) :
    Calls P 17 #[.slice (some ⟨blk, off, none⟩) n cap, .int .i64 a, .int .i64 m, .int .i64 b, .func (.func g) #[] cb] w fun e w' => e = .returned (.tuple #[]) ∧
      ∃ Y : List α, Y.Perm (A ++ B) ∧ Asc (ltOf cf) Y ∧ SWK enc k w0 blk off (p ++ (Y ++ q)).toArray w' := by
  have mixed := T.mixed; have t0 := T.t0; have a0 := T.a0; have z0 := T.z0; have v0 := T.v0; have t3 := T.t3; have a3 := T.a3; have z3 := T.z3; have v3 := T.v3; have t4 := T.t4; have a4 := T.a4; have z4 := T.z4; have v4 := T.v4; have t23 := T.t23; have a23 := T.a23; have z23 := T.z23; have v23 := T.v23; have t25 := T.t25; have a25 := T.a25; have z25 := T.z25; have v25 := T.v25; have t45 := T.t45; have a45 := T.a45; have z45 := T.z45; have v45 := T.v45; have aE := T.aE; have zE := T.zE
  have e17 : ∀ args w, (callFunc 17 args).run P w = .ok (.enter 17 args) w := enters_of F17 (by kernel_rfl) rfl
  have e18 : ∀ args w, (callFunc 18 args).run P w = .ok (.enter 18 args) w := enters_of F18 (by kernel_rfl) rfl
  have HROT : Aside _ := rotate_any (α := α) T F18 F19 enc g cb blk off cap d0 w0
  have hlen : p.length + A.length + B.length ≤ n := by rw [← hl]; simp; omega
  have hbn : b ≤ n := by omega
  have ham : a + 1 < m := by omega
  have hmb : m + 1 < b := by omega
  have HC : Aside _ := hcmp
  have IH : Aside _ := ih
  have HN : Hid (n = d0.size) := hn
  have HL : Hid ((p ++ (A ++ (B ++ q))).length = n) := hl
  have HA : Hid (a = p.length ∧ m = p.length + A.length ∧ b = p.length + A.length + B.length ∧ A.length + B.length ≤ N + 1) := ⟨ha, hm, hb, hN⟩
  have HAS : Aside (Asc (ltOf cf) A) := hA
  have HBS : Aside (Asc (ltOf cf) B) := hB
  obtain ⟨d, hd⟩ : ∃ d, d = (p ++ (A ++ (B ++ q))).toArray := ⟨_, rfl⟩
  rw [← hd] at S
  have hds : d.size = d0.size := by rw [hd, ← hn, ← hl]; simp
  have HD : Hid (d.size = d0.size) := hds
  have HDN : Hid (d.size = n) := hds.trans hn.symm
  have HDL : Hid (d = (p ++ (A ++ (B ++ q))).toArray) := hd
  have S0 : Aside (SWK enc k w0 blk off d w) := S
  have e1 : ((m : Int) - (a : Int) == 1) = false := by simp; omega
  have e2 : ((b : Int) - (m : Int) == 1) = false := by simp; omega
  obtain ⟨mid, hmid, hmd1, hmd2⟩ : ∃ h : Nat, ((a : Int) + (b : Int)) / 2 = (h : Int) ∧ 2 * h ≤ a + b ∧ a + b ≤ 2 * h + 1 := ⟨(a + b) / 2, by omega, by omega, by omega⟩
  have hu : IntKind.u64.wrap ((a : Int) + (b : Int)) = (a : Int) + (b : Int) := by rw [IntKind.wrap_u64]; omega
  clear S T hcmp ih hn hl ha hm hb hN hA hB hd hds hlen hA2 hB2 F18 F19
  go_enter F17, Yba.ntmps17
  go_upto_if 140 with fail
  go_cut [20, 21] from 25 (fun s20 s21 wc => ∃ st r : Nat, s20 = .int .i64 st ∧ s21 = .int .i64 r ∧ a ≤ st ∧ r ≤ m ∧ mid + m ≤ st + b ∧ r ≤ mid ∧ st ≤ r ∧ Hid (st = a ∨ st + b = mid + m) ∧ Hid (r = m ∨ r = mid) ∧ Aside (SWK enc k w0 blk off d wc))
  case first => as_aux_lemma =>
    go_wp2
    · go_meet
      case rel => exact ⟨mid + m - b, mid, by go_num, rfl, by omega, by omega, by omega, Nat.le_refl _, by omega, Or.inr (by omega), Or.inr rfl, S0⟩
    · go_meet
      case rel => exact ⟨a, m, rfl, rfl, Nat.le_refl _, Nat.le_refl _, by omega, by omega, by omega, Or.inl rfl, Or.inl rfl, S0⟩
  case rest =>
    clear S0
    obtain ⟨st, r0, rfl, rfl, b1, b2, b3, b4, b5, C1, C2, S1⟩ := hcut
    go_wp2
    go_loopg [20, 21] (r0 - st) (fun kx s20 s21 wr => ∃ (s r : Nat), s20 = .int .i64 s ∧ s21 = .int .i64 r ∧ st ≤ s ∧ s ≤ r ∧ r ≤ r0 ∧ r - s ≤ kx ∧ Aside (s = st ∨ ltOf cf d[mid + m - 1 - (s - 1)]! d[s - 1]! = false) ∧ Aside (r = r0 ∨ ltOf cf d[mid + m - 1 - r]! d[r]! = true) ∧ Aside (SWK enc k w0 blk off d wr))
    case atStart => exact ⟨st, r0, rfl, rfl, Nat.le_refl _, by omega, Nat.le_refl _, by omega, Or.inl rfl, Or.inl rfl, S1⟩
    case round =>
      clear S1
      obtain ⟨s, r, rfl, rfl, hs, hsr, hr, hkx, HI, HJ, S1⟩ := hrel
      by_cases hlt : s < r
      · have hlt' : (s : Int) < (r : Int) := by omega
        obtain ⟨c, hh, h1, h2⟩ : ∃ h : Nat, ((s : Int) + (r : Int)) / 2 = (h : Int) ∧ s ≤ h ∧ h < r := ⟨(s + r) / 2, by omega, by omega, by omega⟩
        have hu2 : IntKind.u64.wrap ((s : Int) + (r : Int)) = (s : Int) + (r : Int) := by rw [IntKind.wrap_u64]; omega
        obtain ⟨pc, hpc, hpn⟩ : ∃ h : Nat, (mid : Int) + (m : Int) - 1 - (c : Int) = (h : Int) ∧ h = mid + m - 1 - c := ⟨mid + m - 1 - c, by omega, rfl⟩
        have HPC : Hid (pc = mid + m - 1 - c) := hpn
        have pb : pc < n := by omega
        clear hpn
        have pa : (0 : Int) ≤ (c : Int) := by omega
        have ba : (c : Int) < (n : Int) := by omega
        have pc0 : (0 : Int) ≤ (pc : Int) := by omega
        have bc : (pc : Int) < (n : Int) := by omega
        have rp : IntKind.i64.wrap (pc : Int) = (pc : Int) := by rw [IntKind.wrap_i64]; omega
        obtain ⟨x, hx⟩ : ∃ x, x = d[pc]! := ⟨_, rfl⟩
        obtain ⟨y, hy⟩ : ∃ x, x = d[c]! := ⟨_, rfl⟩
        have l1 := S1.out.ld R HD.out P pc (by rw [HDN.out]; omega)
        have l2 := S1.out.ld R HD.out P c (by rw [HDN.out]; omega)
        rw [← hx] at l1
        rw [← hy] at l2
        have hc := S1.out.cmp HC.out HD.out x y
        have HX : Hid (x = d[pc]!) := hx
        have HY : Hid (y = d[c]!) := hy
        clear hx hy
        by_cases hv : cf x y < 0
        · as_aux_lemma =>
          have hd : decide (cf x y < 0) = true := decide_eq_true hv
          go_wp2_with fail
          go_quiet_grown (first | (go_at_fn g; refine Calls.grown_of (hc _ _)))
          have S2 : Aside (SWK enc k w0 blk off d (grow (wr.drewN nq) osq)) := S1.out.grown nq osq
          clear l1 l2 hc S1
          generalize grow (wr.drewN nq) osq = w2 at S2 ⊢
          clear nq osq
          go_wp2
          go_roundg (c - s)
          case measure => omega
          case rel => exact ⟨s, c, rfl, by go_num, hs, by omega, by omega, Nat.le_refl _, HI, Or.inr (by rw [← HPC.out, ← HX.out, ← HY.out]; exact decide_eq_true hv), S2⟩
        · as_aux_lemma =>
          have hd : decide (cf x y < 0) = false := decide_eq_false hv
          go_wp2_with fail
          go_quiet_grown (first | (go_at_fn g; refine Calls.grown_of (hc _ _)))
          have S2 : Aside (SWK enc k w0 blk off d (grow (wr.drewN nq) osq)) := S1.out.grown nq osq
          clear l1 l2 hc S1
          generalize grow (wr.drewN nq) osq = w2 at S2 ⊢
          clear nq osq
          go_wp2
          go_roundg (r - (c + 1))
          case measure => omega
          case rel => exact ⟨c + 1, r, by go_num, rfl, by omega, by omega, hr, Nat.le_refl _, Or.inr (by rw [Nat.add_sub_cancel, ← HPC.out, ← HX.out, ← HY.out]; exact decide_eq_false (by omega)), HJ, S2⟩
      · obtain rfl : s = r := by omega
        have HSP : Aside _ := split_ok hO p A B q HAS.out HBS.out a m b mid st r0 s HA.out.1 (by have := HA.out; omega) (by have := HA.out; omega) b1 b2 b3 b4 C1.out C2.out hs hr (by have := HI.out; rwa [HDL.out] at this) (by have := HJ.out; rwa [HDL.out] at this)
        clear HI HJ C1 C2
        obtain ⟨en, hen, hen2⟩ : ∃ h : Nat, (mid : Int) + (m : Int) - (s : Int) = (h : Int) ∧ h = mid + m - s := ⟨mid + m - s, by omega, rfl⟩
        have HEN : Hid (en = mid + m - s) := hen2
        have en1 : m ≤ en := by omega
        have en2 : en ≤ b := by omega
        have en3 : mid ≤ en := by omega
        have sm : s ≤ mid := by omega
        have s1 : a ≤ s := by omega
        have s2 : s ≤ m := by omega
        clear hen2
        go_upto_region 39 with fail
        go_cut [185] from 25 (fun c185 wx => c185 = .bool (decide (s < m ∧ m < en)) ∧ Aside (SWK enc k w0 blk off d wx))
        case first => as_aux_lemma =>
          by_cases q1 : s < m
          · by_cases q2 : m < en
            · have f1 : (s : Int) < (m : Int) := by omega
              have f2 : (m : Int) < (en : Int) := by omega
              go_wp2
              go_meet
              case rel => exact ⟨congrArg Value.bool (decide_eq_true (p := s < m ∧ m < en) ⟨q1, q2⟩).symm, S1⟩
            · have f1 : (s : Int) < (m : Int) := by omega
              have f2 : ¬ (m : Int) < (en : Int) := by omega
              go_wp2
              go_meet
              case rel => exact ⟨congrArg Value.bool (decide_eq_false (p := s < m ∧ m < en) (by omega)).symm, S1⟩
          · have f1 : ¬ (s : Int) < (m : Int) := by omega
            go_wp2
            go_meet
            case rel => exact ⟨congrArg Value.bool (decide_eq_false (p := s < m ∧ m < en) (by omega)).symm, S1⟩
        case rest =>
          clear S1
          obtain ⟨rfl, S1⟩ := hcut
          go_upto_if 185 with fail
          go_cut [] from 25 (fun wc => Aside (SWK enc k w0 blk off (p ++ (A.take (s - a) ++ (B.take (mid - s) ++ (A.drop (s - a) ++ (B.drop (mid - s) ++ q))))).toArray wc))
          case first => as_aux_lemma =>
            by_cases hrt : s < m ∧ m < en
            · have hdt : decide (s < m ∧ m < en) = true := decide_eq_true hrt
              have HQ := toAside (HROT.out wc (p ++ A.take (s - a)) (A.drop (s - a)) (B.take (mid - s)) (B.drop (mid - s) ++ q) R n s m en HN.out (by rw [regroup, HL.out, HN.out]) (by rw [regroup, ← HDL.out]; exact S1.out) (by have := HA.out; simp; omega) (by have := HA.out; simp; omega) (by have := HA.out; have := HEN.out; simp; omega) (by have := HA.out; simp; omega) (by have := HA.out; have := HEN.out; simp; omega) (by rw [← HN.out]; exact hsz))
              go_wp2_with fail
              refine (HQ.out).mono ?_
              rintro e w2 ⟨rfl, S2⟩
              rw [List.append_assoc] at S2
              have S3 : Aside _ := S2
              clear S2 S1 HQ
              go_wp2
              go_meet
              case rel => exact S3
            · have hdt : decide (s < m ∧ m < en) = false := decide_eq_false hrt
              have S3 : Aside (SWK enc k w0 blk off (p ++ (A.take (s - a) ++ (B.take (mid - s) ++ (A.drop (s - a) ++ (B.drop (mid - s) ++ q))))).toArray wc) := by
                show SWK _ _ _ _ _ _ _
                rw [regroup_skip _ _ _ _ _ _ (by have := HA.out; have := HEN.out; omega), ← HDL.out]; exact S1.out
              clear S1
              go_wp2
              go_meet
              case rel => exact S3
          case rest =>
            clear S1 HROT HC
            have S1 := hcut
            clear hcut
            have hsz1 : (A.take (s - a)).length = s - a := by have := HA.out; simp; omega
            have hsz2 : (B.take (mid - s)).length = mid - s := by have := HA.out; simp; omega
            have hsz3 : (A.drop (s - a)).length = m - s := by have := HA.out; simp; omega
            have hsz4 : (B.drop (mid - s)).length = b - en := by have := HA.out; have := HEN.out; simp; omega
            have hperm := perm_split A B (i := s - a) (j := mid - s)
            have hlen : (p ++ (A.take (s - a) ++ (B.take (mid - s) ++ (A.drop (s - a) ++ (B.drop (mid - s) ++ q))))).length = n := by
              rw [← HL.out]
              have := HA.out
              have e1 : (A.take (s - a)).length + (A.drop (s - a)).length = A.length := by rw [hsz1, hsz3]; omega
              have e2 : (B.take (mid - s)).length + (B.drop (mid - s)).length = B.length := by rw [hsz2, hsz4]; have := HEN.out; omega
              simp only [List.length_append]; omega
            have s1a : Asc (ltOf cf) (A.take (s - a)) := HAS.out.sublist (List.take_sublist _ _)
            have s2a : Asc (ltOf cf) (A.drop (s - a)) := HAS.out.sublist (List.drop_sublist _ _)
            have s1b : Asc (ltOf cf) (B.take (mid - s)) := HBS.out.sublist (List.take_sublist _ _)
            have s2b : Asc (ltOf cf) (B.drop (mid - s)) := HBS.out.sublist (List.drop_sublist _ _)
            have hNN : b - a ≤ N + 1 ∧ a = p.length := by have := HA.out; omega
            clear HAS HBS HA HL HDL HD HDN
            generalize A.take (s - a) = A1 at *
            generalize A.drop (s - a) = A2 at *
            generalize B.take (mid - s) = B1 at *
            generalize B.drop (mid - s) = B2 at *
            have HF : Hid (A1.length = s - a ∧ B1.length = mid - s ∧ A2.length = m - s ∧ B2.length = b - en ∧ (p ++ (A1 ++ (B1 ++ (A2 ++ (B2 ++ q))))).length = n ∧ b - a ≤ N + 1 ∧ a = p.length ∧ en = mid + m - s) := ⟨hsz1, hsz2, hsz3, hsz4, hlen, hNN.1, hNN.2, HEN.out⟩
            have P1 := toAside s1a
            have P2 := toAside s2a
            have P3 := toAside s1b
            have P4 := toAside s2b
            have PP := toAside hperm
            clear hsz1 hsz2 hsz3 hsz4 hlen s1a s2a s1b s2b hperm hNN HEN hen
            go_upto_region 41 with fail
            go_cut [199] from 25 (fun c199 wx => c199 = .bool (decide (a < s ∧ s < mid)) ∧ Aside (SWK enc k w0 blk off (p ++ (A1 ++ (B1 ++ (A2 ++ (B2 ++ q))))).toArray wx))
            case first => as_aux_lemma =>
              by_cases q1 : a < s
              · by_cases q2 : s < mid
                · have f1 : (a : Int) < (s : Int) := by omega
                  have f2 : (s : Int) < (mid : Int) := by omega
                  go_wp2
                  go_meet
                  case rel => exact ⟨congrArg Value.bool (decide_eq_true (p := a < s ∧ s < mid) ⟨q1, q2⟩).symm, S1⟩
                · have f1 : (a : Int) < (s : Int) := by omega
                  have f2 : ¬ (s : Int) < (mid : Int) := by omega
                  go_wp2
                  go_meet
                  case rel => exact ⟨congrArg Value.bool (decide_eq_false (p := a < s ∧ s < mid) (by omega)).symm, S1⟩
              · have f1 : ¬ (a : Int) < (s : Int) := by omega
                go_wp2
                go_meet
                case rel => exact ⟨congrArg Value.bool (decide_eq_false (p := a < s ∧ s < mid) (by omega)).symm, S1⟩
            case rest =>
              clear S1
              obtain ⟨rfl, S1⟩ := hcut
              go_upto_if 199 with fail
              go_cut [] from 25 (fun wc => ∃ Y : List α, Hid (Y.length = mid - a) ∧ Aside (Y.Perm (A1 ++ B1)) ∧ Aside (Asc (ltOf cf) Y) ∧ Aside (SWK enc k w0 blk off (p ++ (Y ++ (A2 ++ (B2 ++ q)))).toArray wc))
              case first => as_aux_lemma =>
                by_cases hrt : a < s ∧ s < mid
                · have hdt : decide (a < s ∧ s < mid) = true := decide_eq_true hrt
                  have HQ := toAside (IH.out (a : Int) (s : Int) (mid : Int) p A1 B1 (A2 ++ (B2 ++ q)) wc (by have := HF.out; omega) (by have := HF.out; omega) (by have := HF.out; omega) (by have := HF.out; omega) (by have := HF.out; omega) (by have := HF.out; omega) P1.out P3.out HF.out.2.2.2.2.1 S1.out)
                  go_wp2_with fail
                  refine (HQ.out).mono ?_
                  rintro e w2 ⟨rfl, Y, y1, y2, S2⟩
                  have S3 := toAside S2
                  have Y1 := toAside y1
                  have Y2 := toAside y2
                  clear S2 S1 HQ y1 y2
                  go_wp2
                  go_meet
                  case rel => exact ⟨Y, by have := Y1.out.length_eq; have := HF.out; simp at *; show _ = _; omega, Y1, Y2, S3⟩
                · have hdt : decide (a < s ∧ s < mid) = false := decide_eq_false hrt
                  have Y2 := toAside (asc_one_empty P1.out P3.out (empty_or (by have := HF.out; omega)))
                  have S3 : Aside (SWK enc k w0 blk off (p ++ ((A1 ++ B1) ++ (A2 ++ (B2 ++ q)))).toArray wc) := by
                    show SWK _ _ _ _ _ _ _
                    rw [List.append_assoc A1]; exact S1.out
                  clear S1
                  go_wp2
                  go_meet
                  case rel => exact ⟨A1 ++ B1, by have := HF.out; show _ = _; simp; omega, List.Perm.refl _, Y2, S3⟩
              case rest =>
                clear S1
                obtain ⟨Y, yl, Y1, Y2, S1⟩ := hcut
                have HSY : Aside (∀ x ∈ Y, ∀ y ∈ A2 ++ B2, ltOf cf y x = false) := fun x hx y hy => HSP.out x (Y1.out.mem_iff.1 hx) y hy
                have HLY : Hid ((p ++ (Y ++ (A2 ++ (B2 ++ q)))).length = n) := by
                  have := HF.out.2.2.2.2.1
                  have := Y1.out.length_eq
                  show _ = _
                  simp only [List.length_append] at *
                  omega
                clear HSP
                go_upto_region 43 with fail
                go_cut [213] from 25 (fun c213 wx => c213 = .bool (decide (mid < en ∧ en < b)) ∧ Aside (SWK enc k w0 blk off (p ++ (Y ++ (A2 ++ (B2 ++ q)))).toArray wx))
                case first => as_aux_lemma =>
                  by_cases q1 : mid < en
                  · by_cases q2 : en < b
                    · have f1 : (mid : Int) < (en : Int) := by omega
                      have f2 : (en : Int) < (b : Int) := by omega
                      go_wp2
                      go_meet
                      case rel => exact ⟨congrArg Value.bool (decide_eq_true (p := mid < en ∧ en < b) ⟨q1, q2⟩).symm, S1⟩
                    · have f1 : (mid : Int) < (en : Int) := by omega
                      have f2 : ¬ (en : Int) < (b : Int) := by omega
                      go_wp2
                      go_meet
                      case rel => exact ⟨congrArg Value.bool (decide_eq_false (p := mid < en ∧ en < b) (by omega)).symm, S1⟩
                  · have f1 : ¬ (mid : Int) < (en : Int) := by omega
                    go_wp2
                    go_meet
                    case rel => exact ⟨congrArg Value.bool (decide_eq_false (p := mid < en ∧ en < b) (by omega)).symm, S1⟩
                case rest => as_aux_lemma =>
                  clear S1
                  obtain ⟨rfl, S1⟩ := hcut
                  by_cases hrt : mid < en ∧ en < b
                  · have hdt : decide (mid < en ∧ en < b) = true := decide_eq_true hrt
                    have HQ := toAside (IH.out (mid : Int) (en : Int) (b : Int) (p ++ Y) A2 B2 q wc (by have := HF.out; have := yl.out; simp; omega) (by have := HF.out; have := yl.out; simp; omega) (by have := HF.out; have := yl.out; simp; omega) (by have := HF.out; omega) (by have := HF.out; omega) (by have := HF.out; omega) P2.out P4.out (by rw [List.append_assoc]; exact HLY.out) (by rw [List.append_assoc]; exact S1.out))
                    go_wp2_with fail
                    refine (HQ.out).mono ?_
                    rintro e w2 ⟨rfl, Z, z1, z2, S2⟩
                    rw [List.append_assoc, ← List.append_assoc Y] at S2
                    have S3 := toAside S2
                    have Z1 := toAside z1
                    have Z2 := toAside z2
                    clear S2 S1 HQ z1 z2
                    go_wp2
                    go_end0
                    exact ⟨rfl, Y ++ Z, PP.out _ _ Y1.out Z1.out, asc_append.2 ⟨Y2.out, Z2.out, fun x hx y hy => HSY.out x hx y (Z1.out.mem_iff.1 hy)⟩, S3.out⟩
                  · have hdt : decide (mid < en ∧ en < b) = false := decide_eq_false hrt
                    have Z2 := toAside (asc_one_empty P2.out P4.out (empty_or (by have := HF.out; omega)))
                    have S3 : Aside (SWK enc k w0 blk off (p ++ ((Y ++ (A2 ++ B2)) ++ q)).toArray wc) := by
                      show SWK _ _ _ _ _ _ _
                      rw [List.append_assoc, List.append_assoc A2]; exact S1.out
                    clear S1
                    go_wp2
                    go_end0
                    exact ⟨rfl, Y ++ (A2 ++ B2), PP.out _ _ Y1.out (List.Perm.refl _), asc_append.2 ⟨Y2.out, Z2.out, HSY.out⟩, S3.out⟩
end Go.Proofs.Ybulkxfo
