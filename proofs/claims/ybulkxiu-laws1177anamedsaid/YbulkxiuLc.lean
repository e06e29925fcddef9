import Derived.Test.YbulkxiuLf
import Derived.Test.YbulkxiuNl
namespace Go.Proofs.Ybulkxiu
open Go.RowKit
set_option maxRecDepth 100000
set_option maxHeartbeats 2000000 in
/-- slices.Index -/
theorem index_any (w : World) (v : Value) (l : List Nat) (x : Nat) (h : RdL w v l) (hl : l.length ≤ 1000000) : Calls Yba.prog 12 #[v, .int .u32 (x : Int)] w fun e w' => (∃ r : Int, e = .returned (.int .i64 r) ∧ (0 ≤ r ↔ x ∈ l)) ∧ w' = w := by
  obtain ⟨a, c, rfl, k⟩ := h
  have K := toAside k
  clear k
  go_enter Yba.func12, Yba.ntmps12
  go_wp2
  go_loopg [8] l.length (fun kx s8 wr => ∃ t : Nat, s8 = .int .i64 t ∧ t ≤ l.length ∧ l.length - t ≤ kx ∧ Aside (∀ j, j < t → l.getD j 0 ≠ x) ∧ Hid (wr = w))
  case atStart => exact ⟨0, rfl, Nat.zero_le _, by omega, fun j hj => absurd hj (by omega), rfl⟩
  case round =>
    obtain ⟨t, rfl, htn, hkx, HN, HW⟩ := hrel
    by_cases hlt : t < l.length
    · obtain ⟨b, rfl, x1⟩ := K.out t hlt
      have y1 : wr.cell? ⟨b, t, none⟩ = some (.int .u32 ((l.getD t 0 : Nat) : Int)) := by rw [HW.out]; exact x1
      have t0 : (0 : Int) ≤ (t : Int) := by omega
      have t1 : (t : Int) < (l.length : Int) := by omega
      obtain ⟨y, hy⟩ : ∃ y, y = l.getD t 0 := ⟨_, rfl⟩
      rw [← hy] at y1
      have HY : Hid (y = l.getD t 0) := hy
      clear hy x1
      by_cases he : x = y
      · subst he
        go_wp2
        go_ret
        refine ⟨⟨_, rfl, ?_⟩, HW.out⟩
        refine ⟨fun _ => ?_, fun _ => by omega⟩
        have : l.getD t 0 = l[t] := by simp [List.getD, hlt]
        rw [HY.out, this]
        exact List.getElem_mem hlt
      · have he' : ((x : Int) == (y : Int)) = false := by simp; omega
        have HE : Aside (x ≠ y) := he
        clear he
        go_wp2
        go_roundg (l.length - (t + 1))
        case measure => omega
        case rel =>
          refine ⟨t + 1, by go_num, by omega, Nat.le_refl _, fun j hj => ?_, HW⟩
          by_cases q : j = t
          · subst q; rw [← HY.out]; exact fun z => HE.out z.symm
          · exact HN.out j (by omega)
    · obtain rfl : t = l.length := by omega
      have ht' : ¬ (l.length : Int) < (l.length : Int) := by omega
      go_wp2
      go_ret
      refine ⟨⟨_, rfl, ⟨fun h => absurd h (by decide), fun h => ?_⟩⟩, HW.out⟩
      obtain ⟨j, hj, e⟩ := List.mem_iff_getElem.1 h
      exact absurd (by simp [List.getD, hj, e]) (HN.out j hj)
/-- slices.Contains -/
theorem contains_any (w : World) (v : Value) (l : List Nat) (x : Nat) (h : RdL w v l) (hl : l.length ≤ 1000000) : Calls Yba.prog 7 #[v, .int .u32 (x : Int)] w fun e w' => e = .returned (.bool (decide (x ∈ l))) ∧ w' = w := by
  have IX := toAside (index_any w v l x h hl)
  clear h
  go_enter Yba.func7, Yba.ntmps7
  go_wp2_with fail
  refine IX.out.mono ?_
  rintro e w1 ⟨⟨r, rfl, hr⟩, rfl⟩
  dsimp only
  clear IX
  have HR := toAside hr
  by_cases h0 : 0 ≤ r
  · have hm : Hid (decide (x ∈ l) = true) := (decide_eq_true (hr.1 h0) : decide (x ∈ l) = true)
    clear hr
    go_wp2
    go_ret
    rw [hm.out]
    simp
  · have h0' : ¬ 0 ≤ r := h0
    have hm : Hid (decide (x ∈ l) = false) := (decide_eq_false (fun z => h0 (hr.2 z)) : decide (x ∈ l) = false)
    clear hr
    go_wp2
    go_ret
    rw [hm.out]
    simp
theorem WF.up_end {G : PG} (h : WF G) {k : Nat} (hk : k < G.n) : upN G (G.dep k + 1) (k + 1) = 0 := by
  obtain ⟨j, j1, j2, j3⟩ := h.up (G.dep k) k hk (Nat.le_refl _)
  rw [show upN G (G.dep k + 1) (k + 1) = G.par j from by rw [upN_add, j1]; show st G (j + 1) = _; unfold st; rw [if_neg (by omega), Nat.add_sub_cancel]]
  by_cases hp : G.par j = 0
  · exact hp
  · have := (h.kid j (by omega) hp).2.1
    omega
/-- What covered reads. -/
structure LP (W : World) (mB : Nat) (G : PG) (eb ec pb pc : Nat) : Prop where
  m0 : W.cell? ⟨mB, 0, none⟩ = some (.slice (some ⟨eb, 0, none⟩) G.n ec)
  me : ∀ k, k < G.n → W.cell? ⟨eb, k, none⟩ = some (.pointer (some ⟨G.ev k, 0, none⟩))
  m1 : W.cell? ⟨mB, 1, none⟩ = some (.slice (some ⟨pb, 0, none⟩) G.n pc)
  mp : ∀ k, k < G.n → W.cell? ⟨pb, k, none⟩ = some (.int .u32 (G.par k))
  e1 : ∀ k, k < G.n → W.cell? ⟨G.ev k, 1, none⟩ = some (.string (tyS (G.ty k)))
  e4 : ∀ k, k < G.n → W.cell? ⟨G.ev k, 4, none⟩ = some (.string (kyS (G.ky k)))
theorem LP.of {W W' : World} {mB : Nat} {G : PG} {eb ec pb pc : Nat} (h : LP W mB G eb ec pb pc) (hc : ∀ a v, W.cell? a = some v → W'.cell? a = some v) : LP W' mB G eb ec pb pc :=
  ⟨hc _ _ h.m0, fun k hk => hc _ _ (h.me k hk), hc _ _ h.m1, fun k hk => hc _ _ (h.mp k hk), fun k hk => hc _ _ (h.e1 k hk), fun k hk => hc _ _ (h.e4 k hk)⟩
theorem RdL.of {W W' : World} {v : Value} {l : List Nat} (h : RdL W v l) (hc : ∀ a v, W.cell? a = some v → W'.cell? a = some v) : RdL W' v l := by
  obtain ⟨a, c, h1, h2⟩ := h
  exact ⟨a, c, h1, fun j hj => by obtain ⟨b, e1, e2⟩ := h2 j hj; exact ⟨b, e1, hc _ _ e2⟩⟩
set_option maxHeartbeats 4000000 in
/-- zzs1177acovered, of a node that the list covers. -/
theorem covered_any (W : World) (mB : Nat) (G : PG) (eb ec pb pc : Nat) (hG : WF G) (hP : LP W mB G eb ec pb pc) (v : Value) (K : List Nat) (hv : RdL W v (K.map (· + 1))) (hK : ∀ y ∈ K, y < G.n) (hKl : K.length ≤ 1000000) (c : Nat) (hc : c < G.n) (hcov : ∃ y ∈ K, CovN G (y + 1) (c + 1)) :
    Calls Yba.prog 8 #[.pointer (some ⟨mB, 0, none⟩), v, .int .u32 ((c : Int) + 1)] W fun e w' => e = .returned (.bool true) ∧ ∃ q, w' = W.drewN q := by
  obtain ⟨a, ca, rfl, k⟩ := hv
  rw [List.length_map] at k ⊢
  have HKC := toAside k
  have HP := toAside hP
  have HG := toAside hG
  have HK := toAside hK
  have HCV := toAside hcov
  have hsm := hG.small
  clear k hP hG hK hcov
  have wc1 : IntKind.u32.wrap (c : Int) = (c : Int) := by rw [IntKind.wrap_u32]; omega
  have c0 : (0 : Int) ≤ (c : Int) := by omega
  have c1 : (c : Int) < (G.n : Int) := by omega
  go_enter Yba.func8, Yba.ntmps8
  go_wp2
  go_loopg [14] K.length (fun kx s14 wr => ∃ t q : Nat, s14 = .int .i64 t ∧ t ≤ K.length ∧ K.length - t ≤ kx ∧ Aside (∀ j, j < t → ¬ CovN G (K.getD j 0 + 1) (c + 1)) ∧ Hid (wr = W.drewN q))
  case atStart => exact ⟨0, 0, rfl, Nat.zero_le _, by omega, fun j hj => absurd hj (by omega), rfl⟩
  case round =>
    obtain ⟨t, q, rfl, htn, hkx, HN, HW⟩ := hrel
    by_cases hlt : t < K.length
    · obtain ⟨b, rfl, x1⟩ := HKC.out t hlt
      have t0 : (0 : Int) ≤ (t : Int) := by omega
      have t1 : (t : Int) < (K.length : Int) := by omega
      obtain ⟨y, hy⟩ : ∃ y, y = K.getD t 0 := ⟨_, rfl⟩
      have hyn : y < G.n := by
        have e : K.getD t 0 = K[t] := by simp [List.getD, hlt]
        rw [hy, e]; exact HK.out _ (List.getElem_mem hlt)
      have y1 : wr.cell? ⟨b, t, none⟩ = some (.int .u32 ((y : Int) + 1)) := by
        rw [HW.out]
        have e : (K.map (· + 1)).getD t 0 = y + 1 := by rw [hy]; simp [List.getD, hlt]
        rw [e] at x1
        exact x1
      have HY : Hid (y = K.getD t 0) := hy
      clear hy x1
      have step : Aside (¬ CovN G (y + 1) (c + 1) → ∀ j, j < t + 1 → ¬ CovN G (K.getD j 0 + 1) (c + 1)) := fun hn j hj => by
        by_cases z : j = t
        · rw [z, ← HY.out]; exact hn
        · exact HN.out j (by omega)
      have y0 : (0 : Int) ≤ (y : Int) := by omega
      have y2 : (y : Int) < (G.n : Int) := by omega
      have wy : IntKind.u32.wrap (y : Int) = (y : Int) := by rw [IntKind.wrap_u32]; omega
      by_cases he : y = c
      · subst he
        go_wp2
        go_ret
        exact ⟨rfl, q, HW.out⟩
      · have he' : (((y : Int) + 1) == ((c : Int) + 1)) = false := by simp; omega
        have he2 : ¬ (y : Int) = (c : Int) := by omega
        have HE : Aside (y ≠ c) := he
        clear he
        have LPr : Aside (LP wr mB G eb ec pb pc) := by rw [HW.out]; exact toAside (HP.out.of fun _ _ z => z)
        have d1 := LPr.out.m0
        have d2 := LPr.out.me c hc
        have d3 := LPr.out.me y hyn
        go_wp2_with fail
        go_quiet (fail)
        obtain ⟨w2, hw2⟩ : ∃ X, X = wr.drewN nq := ⟨_, rfl⟩
        have LP2 : Aside (LP w2 mB G eb ec pb pc) := by rw [hw2]; exact toAside (LPr.out.of fun _ _ z => z)
        obtain ⟨q2, HW2⟩ : ∃ q2, Hid (w2 = W.drewN q2) := ⟨_, (by rw [hw2, HW.out, World.drewN_drewN] : w2 = W.drewN (q + nq))⟩
        rw [← hw2]
        clear hw2 LPr HW d1 d2 d3 y1
        have d1 := LP2.out.e1 c hc
        have d2 := LP2.out.e4 c hc
        have d3 := LP2.out.e1 y hyn
        have d4 := LP2.out.e4 y hyn
        by_cases h1 : G.ty c = G.ty y
        · have t1' : ((tyS (G.ty c)).toList == (tyS (G.ty y)).toList) = true := by rw [tyS_eq, h1]; simp
          by_cases h2 : G.ky c = G.ky y
          · have t2' : ((kyS (G.ky c)).toList == (kyS (G.ky y)).toList) = true := by rw [kyS_eq, h2]; simp
            have HT : Aside (G.ty (y + 1 - 1) = G.ty (c + 1 - 1) ∧ G.ky (y + 1 - 1) = G.ky (c + 1 - 1)) := ⟨h1.symm, h2.symm⟩
            clear h1 h2
            go_wp2_with fail
            go_quiet (fail)
            obtain ⟨w3, hw3⟩ : ∃ X, X = w2.drewN nq := ⟨_, rfl⟩
            have LP3 : Aside (LP w3 mB G eb ec pb pc) := by rw [hw3]; exact toAside (LP2.out.of fun _ _ z => z)
            obtain ⟨q3, HW3⟩ : ∃ q3, Hid (w3 = W.drewN q3) := ⟨_, (by rw [hw3, HW2.out, World.drewN_drewN] : w3 = W.drewN (q2 + nq))⟩
            rw [← hw3]
            clear hw3 LP2 HW2 d1 d2 d3 d4 t1' t2'
            have d1 := LP3.out.m1
            have d2 := LP3.out.mp y hyn
            go_wp2
            go_loopg [11] (G.dep y + 1) (fun kx s11 wx => ∃ (t2 aN : Nat), s11 = .int .u32 (aN : Int) ∧ Aside (upN G (t2 + 1) (y + 1) = aN) ∧ t2 ≤ G.dep y ∧ Aside (∀ u, 1 ≤ u → u ≤ t2 → upN G u (y + 1) ≠ c + 1) ∧ G.dep y - t2 + 1 ≤ kx ∧ Hid (wx = w3))
            case atStart => exact ⟨0, G.par y, rfl, (by show st G (y + 1) = _; unfold st; rw [if_neg (by omega), Nat.add_sub_cancel] : upN G (0 + 1) (y + 1) = G.par y), Nat.zero_le _, fun u h1 h2 => absurd h2 (by omega), by omega, rfl⟩
            case round =>
              obtain ⟨t2, aN, rfl, HA, ht2, HU, hkx2, HX⟩ := hrel
              by_cases ha : aN = 0
              · have HZ : Aside (¬ CovN G (y + 1) (c + 1)) := by
                  have hz : G.dep y ≤ t2 := Decidable.byContradiction fun z => by
                    obtain ⟨j, j1, _⟩ := HG.out.up (t2 + 1) y hyn (by omega)
                    have := HA.out
                    omega
                  refine toAside (fun h => ?_)
                  rcases h with h | ⟨_, _, u, u1, u2, u3⟩
                  · exact HE.out (by omega)
                  · exact HU.out u u1 (by rw [Nat.add_sub_cancel] at u2; omega) u3
                subst ha
                go_wp2
                go_roundg (K.length - (t + 1))
                case measure => omega
                case rel => exact ⟨t + 1, q3, by go_num, by omega, Nat.le_refl _, step.out HZ.out, (HX.out.trans HW3.out : wr = W.drewN q3)⟩
              · have hlt3 : t2 + 1 ≤ G.dep y := Decidable.byContradiction fun z => by
                  have e : t2 = G.dep y := by omega
                  have h1 := HA.out
                  rw [e, HG.out.up_end hyn] at h1
                  omega
                obtain ⟨j, j1, j2, _⟩ := HG.out.up (t2 + 1) y hyn hlt3
                have haj : aN = j + 1 := HA.out.symm.trans j1
                subst haj
                clear ha j1
                have hjn : j < G.n := by omega
                have g1 : wr.cell? ⟨mB, 1, none⟩ = some (.slice (some ⟨pb, 0, none⟩) G.n pc) := by rw [HX.out]; exact d1
                have g2 : wr.cell? ⟨pb, j, none⟩ = some (.int .u32 (G.par j)) := by rw [HX.out]; exact LP3.out.mp j hjn
                have z0 : (0 : Int) ≤ (j : Int) := by omega
                have z1 : (j : Int) < (G.n : Int) := by omega
                have wj : IntKind.u32.wrap (j : Int) = (j : Int) := by rw [IntKind.wrap_u32]; omega
                have b0 : (((j : Int) + 1) != 0) = true := by simp; omega
                by_cases hjc : j = c
                · subst hjc
                  go_wp2
                  go_ret
                  exact ⟨rfl, q3, HX.out.trans HW3.out⟩
                · have hjc' : (((j : Int) + 1) == ((c : Int) + 1)) = false := by simp; omega
                  have hjc2 : ¬ (j : Int) = (c : Int) := by omega
                  have HJC : Aside (j ≠ c) := hjc
                  have HA2 : Aside (upN G (t2 + 1 + 1) (y + 1) = G.par j) := (by rw [upN_add, HA.out]; show st G (j + 1) = _; unfold st; rw [if_neg (by omega), Nat.add_sub_cancel] : upN G (t2 + 1 + 1) (y + 1) = G.par j)
                  clear hjc
                  go_wp2
                  go_roundg (G.dep y - (t2 + 1) + 1)
                  case measure => omega
                  case rel =>
                    refine ⟨t2 + 1, G.par j, by go_num, HA2, by omega, fun u u1 u2 => ?_, Nat.le_refl _, HX⟩
                    by_cases z : u = t2 + 1
                    · rw [z, HA.out]; exact fun e => HJC.out (by omega)
                    · exact HU.out u u1 (by omega)
          · have t2' : ((kyS (G.ky c)).toList == (kyS (G.ky y)).toList) = false := by rw [kyS_eq]; simpa using h2
            have HZ : Aside (¬ CovN G (y + 1) (c + 1)) := fun h => by
              rcases h with h | ⟨_, h, _⟩
              · exact HE.out (by omega)
              · exact h2 (by rw [Nat.add_sub_cancel, Nat.add_sub_cancel] at h; exact h.symm)
            clear h1 h2
            go_wp2_with fail
            go_quiet (fail)
            go_wp2
            go_roundg (K.length - (t + 1))
            case measure => omega
            case rel => exact ⟨t + 1, q2 + nq, by go_num, by omega, Nat.le_refl _, step.out HZ.out, (by rw [HW2.out, World.drewN_drewN] : w2.drewN nq = W.drewN (q2 + nq))⟩
        · have t1' : ((tyS (G.ty c)).toList == (tyS (G.ty y)).toList) = false := by rw [tyS_eq]; simpa using h1
          have HZ : Aside (¬ CovN G (y + 1) (c + 1)) := fun h => by
            rcases h with h | ⟨h, _⟩
            · exact HE.out (by omega)
            · exact h1 (by rw [Nat.add_sub_cancel, Nat.add_sub_cancel] at h; exact h.symm)
          clear h1
          go_wp2_with fail
          go_quiet (fail)
          go_wp2
          go_roundg (K.length - (t + 1))
          case measure => omega
          case rel => exact ⟨t + 1, q2 + nq, by go_num, by omega, Nat.le_refl _, step.out HZ.out, (by rw [HW2.out, World.drewN_drewN] : w2.drewN nq = W.drewN (q2 + nq))⟩
    · exfalso
      obtain ⟨y, hy, hcv⟩ := HCV.out
      obtain ⟨j, hj, e⟩ := List.mem_iff_getElem.1 hy
      exact HN.out j (by omega) (by rw [show K.getD j 0 = y by simp [List.getD, hj, e]]; exact hcv)
end Go.Proofs.Ybulkxiu
