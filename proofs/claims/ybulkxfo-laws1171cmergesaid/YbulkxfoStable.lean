import Derived.Test.YbulkxfoBlocks
namespace Go.Proofs.Ybulkxfo
open Go.Shelf Go.RowKit Go.Lib Go.Sort
variable {P : Program} {α : Type} [Inhabited α]

set_option maxHeartbeats 4000000 in
set_option maxRecDepth 1000000 in
theorem stable_any {k : Nat} (T : TF P k) (F13 : P.funcs[13]? = some Yba.f13) (F16 : P.funcs[16]? = some Yba.f16) (F17 : P.funcs[17]? = some Yba.f17) (enc : α → List Value) (cf : α → α → Int) (g : Nat) (cb : Array Value) (blk off cap n : Nat) (d : Array α) (w0 w : World)
    (hins : InsArr P k enc cf g cb blk off cap n w0) (hsym : SymArr P k enc cf g cb blk off cap n w0) (hd : d.size = n) (S : SWK enc k w0 blk off d w) (hn : n ≤ 1024) :
    Calls P 13 #[.slice (some ⟨blk, off, none⟩) n cap, .int .i64 n, .func (.func g) #[] cb] w fun e w' => e = .returned (.tuple #[]) ∧
      ∃ d' : Array α, d'.size = n ∧ SortedIn (ltOf cf) 0 n d' ∧ SWK enc k w0 blk off d' w' := by
  have t3 := T.t3; have a3 := T.a3; have z3 := T.z3; have v3 := T.v3; have t4 := T.t4; have a4 := T.a4; have z4 := T.z4; have v4 := T.v4; have t23 := T.t23; have a23 := T.a23; have z23 := T.z23; have v23 := T.v23
  have e16 : ∀ args w, (callFunc 16 args).run P w = .ok (.enter 16 args) w := enters_of F16 (by kernel_rfl) rfl
  have e17 : ∀ args w, (callFunc 17 args).run P w = .ok (.enter 17 args) w := enters_of F17 (by kernel_rfl) rfl
  have HI := toAside hins
  have HS := toAside hsym
  have S0 := toAside S
  have HD : Hid (d.size = n) := hd
  clear T F16 F17 hins hsym S hd
  go_enter F13, Yba.ntmps13
  go_wp2
  go_loopg [7, 8] n (fun kx s7 s8 wr => ∃ (t A : Nat) (dk : Array α), s7 = .int .i64 A ∧ s8 = .int .i64 ((A : Int) + 20) ∧ A ≤ n ∧ n - A ≤ kx ∧ Hid (A = t * 20) ∧ Hid (dk.size = n) ∧ Aside (Ins (ltOf cf) t dk) ∧ Aside (SWK enc k w0 blk off dk wr))
  case atStart => exact ⟨0, 0, d, by go_num, by go_num, by omega, by omega, rfl, HD, fun u hu => absurd hu (by omega), S0⟩
  case round =>
    clear S0
    obtain ⟨t, A, dk, rfl, rfl, ht, hkx, HA, HDK, HIN, S1⟩ := hrel
    by_cases hlt : A + 20 ≤ n
    · have hl : (A : Int) + 20 ≤ (n : Int) := by omega
      go_wp2_with fail
      refine (HI.out _ _ A (A + 20) dk wr rfl (by omega) (by omega) (by omega) HDK.out S1.out).mono ?_
      rintro e w1 ⟨rfl, d1, h1, h2, h3, S2⟩
      have HD1 : Hid (d1.size = n) := h1
      have HIN1 := toAside (ins_step HIN.out (by rw [← HA.out]; exact h2) (by rw [← HA.out]; exact h3))
      have S3 := toAside S2
      clear h1 h2 h3 S2 S1 HIN
      go_wp2
      go_roundg (n - (A + 20))
      case measure => omega
      case rel => exact ⟨t + 1, A + 20, d1, by go_num, by go_num, hlt, Nat.le_refl _, by have := HA.out; show _ = _; omega, HD1, HIN1, S3⟩
    · have hl : ¬ (A : Int) + 20 ≤ (n : Int) := by omega
      go_wp2_with fail
      refine (HI.out _ _ A n dk wr rfl rfl ht (Nat.le_refl _) HDK.out S1.out).mono ?_
      rintro e w1 ⟨rfl, d1, h1, h2, h3, S2⟩
      have HD1 : Hid (d1.size = n) := h1
      have HB1 := toAside (ins_end (n := n) HIN.out (by rw [← HA.out]; omega) (by rw [← HA.out]; exact h2) (by rw [← HA.out]; exact h3))
      have S3 := toAside S2
      clear h1 h2 h3 S2 S1 HIN HDK
      go_wp2
      go_loopg [6] n (fun kx s6 wr2 => ∃ (bs : Nat) (dj : Array α), s6 = .int .i64 bs ∧ 0 < bs ∧ bs ≤ 2 * n + 20 ∧ n - bs ≤ kx ∧ Hid (dj.size = n) ∧ Aside (Blk (ltOf cf) bs n dj) ∧ Aside (SWK enc k w0 blk off dj wr2))
      case atStart => exact ⟨20, d1, rfl, by omega, by omega, by omega, HD1, HB1, S3⟩
      case round =>
        clear S3 HD1 HB1
        obtain ⟨bs, dj, rfl, hb0, hb1, hkx2, HDJ, HBJ, S1⟩ := hrel
        by_cases hbn : bs < n
        · have hbn' : (bs : Int) < (n : Int) := by omega
          go_wp2
          go_loopg [7, 8] n (fun kx s7 s8 wr3 => ∃ (t A : Nat) (dm : Array α), s7 = .int .i64 A ∧ s8 = .int .i64 ((A : Int) + 2 * (bs : Int)) ∧ A ≤ n ∧ n - A ≤ kx ∧ Hid (A = t * (2 * bs)) ∧ Hid (dm.size = n) ∧ Aside (Mix (ltOf cf) bs n t dm) ∧ Aside (SWK enc k w0 blk off dm wr3))
          case atStart => exact ⟨0, 0, dj, by go_num, by go_num, by omega, by omega, (by show _ = _; omega), HDJ, mix_start HBJ.out, S1⟩
          case round =>
            clear S1 HDJ HBJ
            obtain ⟨t, A, dm, rfl, rfl, hA, hkx3, HA, HDM, HM, S1⟩ := hrel
            by_cases hlt2 : A + 2 * bs ≤ n
            · have hl2 : (A : Int) + 2 * (bs : Int) ≤ (n : Int) := by omega
              go_wp2_with fail
              refine (HS.out _ _ _ A (A + bs) (A + 2 * bs) dm wr rfl (by omega) (by omega) (by omega) (by omega) hlt2 HDM.out (mix_first HM.out HA.out (by omega)) (mix_second HM.out HA.out (Nat.le_refl _) hlt2) S1.out).mono ?_
              rintro e w1 ⟨rfl, d2, h1, h2, h3, S2⟩
              have HD2 : Hid (d2.size = n) := h1
              have HM2 := toAside (mix_step HM.out HA.out h2 h3)
              have S3 := toAside S2
              clear h1 h2 h3 S2 S1 HM HDM
              go_wp2
              go_roundg (n - (A + 2 * bs))
              case measure => omega
              case rel => exact ⟨t + 1, A + 2 * bs, d2, by go_num, by go_num, hlt2, Nat.le_refl _, by have := HA.out; show _ = _; rw [Nat.add_mul]; omega, HD2, HM2, S3⟩
            · have hl2 : ¬ (A : Int) + 2 * (bs : Int) ≤ (n : Int) := by omega
              by_cases hm : A + bs < n
              · have hm' : (A : Int) + (bs : Int) < (n : Int) := by omega
                go_wp2_with fail
                refine (HS.out _ _ _ A (A + bs) n dm wr rfl (by omega) rfl (by omega) hm (Nat.le_refl _) HDM.out (mix_first HM.out HA.out (by omega)) (mix_second HM.out HA.out (by omega) (Nat.le_refl _)) S1.out).mono ?_
                rintro e w1 ⟨rfl, d2, h1, h2, h3, S2⟩
                have HD2 : Hid (d2.size = n) := h1
                have HM2 := toAside (mix_end HM.out HA.out (by omega) h2 h3)
                have S3 := toAside S2
                clear h1 h2 h3 S2 S1 HM HDM
                go_wp2
                go_roundg (n - 2 * bs)
                case measure => omega
                case rel => exact ⟨2 * bs, d2, by go_num, by omega, by omega, Nat.le_refl _, HD2, HM2, S3⟩
              · have hm' : ¬ (A : Int) + (bs : Int) < (n : Int) := by omega
                have HM2 := toAside (mix_end2 HM.out HA.out hb0 (by omega))
                clear HM
                go_wp2
                go_roundg (n - 2 * bs)
                case measure => omega
                case rel => exact ⟨2 * bs, dm, by go_num, by omega, by omega, Nat.le_refl _, HDM, HM2, S1⟩
        · have hbn' : ¬ (bs : Int) < (n : Int) := by omega
          go_wp2
          go_end0
          exact ⟨rfl, dj, HDJ.out, blk_end HBJ.out (by omega), S1.out⟩

set_option maxRecDepth 100000 in
theorem sortStable_any {k : Nat} (T : TF P k) (F9 : P.funcs[9]? = some Yba.f9) (F13 : P.funcs[13]? = some Yba.f13) (blk off cap n g : Nat) (cb : Array Value) (w : World) (R : World → Prop)
    (h : Calls P 13 #[.slice (some ⟨blk, off, none⟩) n cap, .int .i64 n, .func (.func g) #[] cb] w fun e w' => e = .returned (.tuple #[]) ∧ R w') :
    Calls P 9 #[.slice (some ⟨blk, off, none⟩) n cap, .func (.func g) #[] cb] w fun e w' => e = .returned (.tuple #[]) ∧ R w' := by
  have e13 : ∀ args w, (callFunc 13 args).run P w = .ok (.enter 13 args) w := enters_of F13 (by kernel_rfl) rfl
  have t3 := T.t3; have a3 := T.a3; have t23 := T.t23; have a23 := T.a23; have z23 := T.z23; have v23 := T.v23
  have H := toAside h
  clear h T F13
  go_enter F9, Yba.ntmps9
  go_wp2_with fail
  refine (H.out).mono ?_
  rintro e w1 ⟨rfl, hR⟩
  have HR := toAside hR
  clear hR H
  go_wp2
  go_end0
  exact ⟨rfl, HR.out⟩
end Go.Proofs.Ybulkxfo
