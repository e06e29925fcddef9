import Derived.Test.YbulkxfoSwap
import Derived.Test.YbulkxfoPlain
namespace Go.Proofs.Ybulkxfo
open Go.Shelf Go.RowKit Go.Lib Go.Sort
variable {P : Program} {α : Type} [Inhabited α]

/-- How rotate's two counters stand: the stretches u, v about m are still to be exchanged. -/
def RotAt {β : Type} (L : List β) (m i j : Nat) (dk : Array β) (G : List β) : Prop :=
  ∃ p u v q : List β, dk = (p ++ (u ++ (v ++ q))).toArray ∧ p.length + i = m ∧ u.length = i ∧ v.length = j ∧ p ++ (v ++ (u ++ q)) = G ∧ L.length = (p ++ (u ++ (v ++ q))).length

theorem rot_gt {L G : List α} {m i j : Nat} {dk : Array α} (h : RotAt L m i j dk G) (hij : j < i) : RotAt L m (i - j) j (swr (m - i) m j dk) G := by
  obtain ⟨p, u, v, q, rfl, hp, hu, hv, hG, hL⟩ := h
  refine ⟨p ++ v, u.drop j, u.take j, q, ?_, by simp; omega, by simp; omega, by simp; omega, ?_, ?_⟩
  · have := swr_lists p (u.take j) (u.drop j) v q (by simp; omega) (m - i) m j (by omega) (by simp; omega) (by simp; omega)
    simpa [← List.append_assoc, List.take_append_drop] using this
  · rw [← hG]
    simp [← List.append_assoc, List.take_append_drop]
  · simp at hL ⊢; omega
theorem rot_lt {L G : List α} {m i j : Nat} {dk : Array α} (h : RotAt L m i j dk G) (hij : i < j) : RotAt L m i (j - i) (swr (m - i) (m + j - i) i dk) G := by
  obtain ⟨p, u, v, q, rfl, hp, hu, hv, hG, hL⟩ := h
  refine ⟨p, v.drop (j - i), v.take (j - i), u ++ q, ?_, hp, by simp; omega, by simp; omega, ?_, ?_⟩
  · have := swr_lists p u (v.take (j - i)) (v.drop (j - i)) q (by simp; omega) (m - i) (m + j - i) i (by omega) (by simp; omega) (by omega)
    simpa [← List.append_assoc, List.take_append_drop] using this
  · rw [← hG]
    simp [← List.append_assoc, List.take_append_drop]
  · simp at hL ⊢; omega
theorem rot_eq {L G : List α} {m i : Nat} {dk : Array α} (h : RotAt L m i i dk G) : swr (m - i) m i dk = G.toArray := by
  obtain ⟨p, u, v, q, rfl, hp, hu, hv, rfl, hL⟩ := h
  have := swr_lists p u [] v q (by omega) (m - i) m i (by omega) (by simp; omega) (by omega)
  simpa using this
theorem rot_size {β : Type} {L G : List β} {m i j : Nat} {dk : Array β} (h : RotAt L m i j dk G) : dk.size = L.length ∧ i ≤ m ∧ m + j ≤ L.length := by
  obtain ⟨p, u, v, q, rfl, hp, hu, hv, _, hL⟩ := h
  refine ⟨by simpa using hL.symm, by omega, ?_⟩
  rw [hL]; simp; omega

set_option maxHeartbeats 4000000 in
set_option maxRecDepth 1000000 in
/-- rotateCmpFunc(data, a, m, b): the stretches [a, m) and [m, b) exchange their places. -/
theorem rotate_any {k : Nat} (T : TF P k) (F18 : P.funcs[18]? = some Yba.f18) (F19 : P.funcs[19]? = some Yba.f19) (enc : α → List Value) (g : Nat) (cb : Array Value) (blk off cap : Nat) (d0 : Array α) (w0 w : World) (p U V q : List α)
    (R : RowK enc k w0 blk off d0) (n a m b : Nat) (hn : n = d0.size) (hs : d0.size = (p ++ (U ++ (V ++ q))).length) (S : SWK enc k w0 blk off (p ++ (U ++ (V ++ q))).toArray w) (ha : a = p.length) (hm : m = a + U.length) (hb : b = m + V.length) (hU : 0 < U.length) (hV : 0 < V.length) (hsz : d0.size < 4611686018427387904) :
    Calls P 18 #[.slice (some ⟨blk, off, none⟩) n cap, .int .i64 a, .int .i64 m, .int .i64 b, .func (.func g) #[] cb] w fun e w' => e = .returned (.tuple #[]) ∧ SWK enc k w0 blk off (p ++ (V ++ (U ++ q))).toArray w' := by
  have HR : Aside (RotAt (p ++ (U ++ (V ++ q))) m (m - a) (b - m) (p ++ (U ++ (V ++ q))).toArray (p ++ (V ++ (U ++ q)))) := ⟨p, U, V, q, rfl, by omega, by omega, by omega, rfl, rfl⟩
  have S0 : Aside (SWK enc k w0 blk off (p ++ (U ++ (V ++ q))).toArray w) := S
  have hcall : ∀ (xi yi ci : Int) (x y c : Nat) (dk : Array α) (W : World), xi = x → yi = y → ci = c → dk.size = d0.size → SWK enc k w0 blk off dk W → x + c ≤ dk.size → y + c ≤ dk.size → Calls P 19 #[.slice (some ⟨blk, off, none⟩) n cap, .int .i64 xi, .int .i64 yi, .int .i64 ci, .func (.func g) #[] cb] W fun e w' => e = .returned (.tuple #[]) ∧ SWK enc k w0 blk off (swr x y c dk) w' := by
    intro xi yi ci x y c dk W hx hy hc h1 h2 h3 h4
    subst hx hy hc
    have := swapRange_any T F19 enc g cb blk off cap x y c d0 dk w0 W R h1.symm h2 h3 h4 (by omega)
    rwa [h1, ← hn] at this
  have HC : Aside _ := hcall
  have eg : ∀ args w, (callFunc 19 args).run P w = .ok (.enter 19 args) w := enters_of F19 (by kernel_rfl) rfl
  have HN : Hid (n = d0.size) := hn
  have hszn : n < 4611686018427387904 := by omega
  have hmm : a < m ∧ m < b := by omega
  have hbn : b ≤ n := by rw [hn, hs]; simp; omega
  have t3 := T.t3; have a3 := T.a3; have z3 := T.z3; have v3 := T.v3; have t4 := T.t4; have a4 := T.a4; have z4 := T.z4; have v4 := T.v4; have t23 := T.t23; have a23 := T.a23; have z23 := T.z23; have v23 := T.v23
  clear S hcall T F19 hU hV
  have HL : Hid (n = (p ++ (U ++ (V ++ q))).length) := by show _ = _; omega
  generalize p ++ (V ++ (U ++ q)) = G at *
  generalize (p ++ (U ++ (V ++ q))) = L at *
  clear ha hm hb hs hn hsz
  obtain ⟨hmm1, hmm2⟩ := hmm
  go_enter F18, Yba.ntmps18
  go_wp2
  go_loopg [10, 11] (b - a) (fun kx s10 s11 wr => ∃ (i j : Nat) (dk : Array α), s10 = .int .i64 i ∧ s11 = .int .i64 j ∧ 0 < i ∧ 0 < j ∧ i + j ≤ kx + 1 ∧ Aside (RotAt L m i j dk G) ∧ Aside (SWK enc k w0 blk off dk wr))
  case atStart => exact ⟨m - a, b - m, L.toArray, by go_num, by go_num, by omega, by omega, by omega, HR, S0⟩
  case round =>
    clear S0 HR
    obtain ⟨i, j, dk, rfl, rfl, hi, hj, hkx, HR, S1⟩ := hrel
    obtain ⟨hz, him, hmj⟩ := rot_size HR.out
    rw [← HL.out] at hz hmj
    rcases Nat.lt_trichotomy i j with hlt | heq | hgt
    · have e1 : ((i : Int) == (j : Int)) = false := by simp; omega
      have e2 : ¬ (j : Int) < (i : Int) := by omega
      have HX : Aside _ := rot_lt HR.out hlt
      go_wp2_with fail
      refine (HC.out _ _ _ (m - i) (m + j - i) i dk wr (by omega) (by omega) rfl (by rw [← HN.out]; exact hz) S1.out (by omega) (by omega)).mono ?_
      rintro e w1 ⟨rfl, S2⟩
      have S3 : Aside _ := S2
      clear S2 S1 HR
      go_wp2
      go_roundg (i + (j - i) - 1)
      case measure => omega
      case rel => exact ⟨i, j - i, _, rfl, by go_num, hi, by omega, by omega, HX, S3⟩
    · subst heq
      have e1 : ((i : Int) == (i : Int)) = true := by simp
      have HX : Hid _ := rot_eq HR.out
      go_wp2_with fail
      refine (HC.out _ _ _ (m - i) m i dk wr (by omega) rfl rfl (by rw [← HN.out]; exact hz) S1.out (by omega) (by omega)).mono ?_
      rintro e w1 ⟨rfl, S2⟩
      rw [HX.out] at S2
      have S3 : Aside _ := S2
      clear S2 S1 HR
      go_wp2
      go_end0
      exact ⟨rfl, S3.out⟩
    · have e1 : ((i : Int) == (j : Int)) = false := by simp; omega
      have e2 : (j : Int) < (i : Int) := by omega
      have HX : Aside _ := rot_gt HR.out hgt
      go_wp2_with fail
      refine (HC.out _ _ _ (m - i) m j dk wr (by omega) rfl rfl (by rw [← HN.out]; exact hz) S1.out (by omega) (by omega)).mono ?_
      rintro e w1 ⟨rfl, S2⟩
      have S3 : Aside _ := S2
      clear S2 S1 HR
      go_wp2
      go_roundg (i - j + j - 1)
      case measure => omega
      case rel => exact ⟨i - j, j, _, by go_num, rfl, by omega, hj, by omega, HX, S3⟩
end Go.Proofs.Ybulkxfo
