import Derived.Test.YbulkxiuLeaf
namespace Go.Proofs.Ybulkxiu
open Go.RowKit
set_option maxRecDepth 100000

/-- The graph, as plain numbers: node k (from 0) has the event of block ev k, of type ty k and state key ky k; par, dep, jmp: its parent's number (from 1; 0: none), its depth, its jump's number. -/
structure PG where
  n : Nat
  ev : Nat → Nat
  ty : Nat → Bool
  ky : Nat → Bool
  par : Nat → Nat
  dep : Nat → Nat
  jmp : Nat → Nat

def st (G : PG) (a : Nat) : Nat := if a = 0 then 0 else G.par (a - 1)
def upN (G : PG) : Nat → Nat → Nat
  | 0, a => a
  | t + 1, a => upN G t (st G a)
theorem upN_add (G : PG) : ∀ s t a, upN G (s + t) a = upN G t (upN G s a)
  | 0, t, a => by rw [Nat.zero_add]; rfl
  | s + 1, t, a => by rw [show s + 1 + t = (s + t) + 1 by omega]; show upN G (s + t) (st G a) = upN G t (upN G s (st G a)); exact upN_add G s t _

/-- What every graph of the builder is. -/
structure WF (G : PG) : Prop where
  small : G.n ≤ 512
  root : ∀ k, k < G.n → G.par k = 0 → G.dep k = 0 ∧ G.jmp k = k + 1
  kid : ∀ k, k < G.n → G.par k ≠ 0 → G.par k ≤ k ∧ G.dep k = G.dep (G.par k - 1) + 1 ∧ ∃ t, 1 ≤ t ∧ t ≤ G.dep k ∧ upN G t (k + 1) = G.jmp k

theorem WF.dep_le {G : PG} (h : WF G) : ∀ k, k < G.n → G.dep k ≤ k := by
  intro k
  induction k using Nat.strongRecOn with
  | _ k ih =>
    intro hk
    by_cases hp : G.par k = 0
    · rw [(h.root k hk hp).1]; omega
    · obtain ⟨h1, h2, _⟩ := h.kid k hk hp
      have := ih (G.par k - 1) (by omega) (by omega)
      omega
/-- t steps up, t at most the depth: a node, t levels higher. -/
theorem WF.up {G : PG} (h : WF G) : ∀ t k, k < G.n → t ≤ G.dep k → ∃ j, upN G t (k + 1) = j + 1 ∧ j ≤ k ∧ G.dep j = G.dep k - t := by
  intro t
  induction t with
  | zero => intro k _ _; exact ⟨k, rfl, Nat.le_refl _, by omega⟩
  | succ t ih =>
    intro k hk ht
    have hp : G.par k ≠ 0 := fun e => by have := (h.root k hk e).1; omega
    obtain ⟨h1, h2, _⟩ := h.kid k hk hp
    obtain ⟨j, j1, j2, j3⟩ := ih (G.par k - 1) (by omega) (by omega)
    refine ⟨j, ?_, by omega, by omega⟩
    show upN G t (st G (k + 1)) = j + 1
    rw [show st G (k + 1) = G.par k - 1 + 1 by unfold st; rw [if_neg (by omega), Nat.add_sub_cancel]; omega]
    exact j1

def tyS (b : Bool) : ByteArray := if b then ⟨#[109, 46, 114, 111, 111, 109, 46, 112, 111, 119, 101, 114, 95, 108, 101, 118, 101, 108, 115]⟩ else ⟨#[109, 46, 114, 111, 111, 109, 46, 109, 101, 109, 98, 101, 114]⟩
def kyS (b : Bool) : ByteArray := if b then ⟨#[64, 97, 58, 120]⟩ else ⟨#[]⟩

/-- The graph lies in memory: g's block gB, the row of its nodes nb. -/
structure GMem (w : World) (gB nb cap : Nat) (G : PG) : Prop where
  g0 : w.cell? ⟨gB, 0, none⟩ = some (.slice (some ⟨nb, 0, none⟩) G.n cap)
  ev : ∀ k, k < G.n → w.cell? ⟨nb, k * 6, none⟩ = some (.pointer (some ⟨G.ev k, 0, none⟩))
  par : ∀ k, k < G.n → w.cell? ⟨nb, k * 6 + 2, none⟩ = some (.int .u32 (G.par k))
  dep : ∀ k, k < G.n → w.cell? ⟨nb, k * 6 + 3, none⟩ = some (.int .u32 (G.dep k))
  jmp : ∀ k, k < G.n → w.cell? ⟨nb, k * 6 + 4, none⟩ = some (.int .u32 (G.jmp k))
  nd : ∀ k, k < G.n → w.cell? ⟨G.ev k, 7, none⟩ = some (.int .u32 (k + 1))
  ty : ∀ k, k < G.n → w.cell? ⟨G.ev k, 1, none⟩ = some (.string (tyS (G.ty k)))
  ky : ∀ k, k < G.n → w.cell? ⟨G.ev k, 4, none⟩ = some (.string (kyS (G.ky k)))
theorem GMem.of {w w' : World} {gB nb cap : Nat} {G : PG} (h : GMem w gB nb cap G) (hc : ∀ a v, w.cell? a = some v → w'.cell? a = some v) : GMem w' gB nb cap G :=
  ⟨hc _ _ h.g0, fun k hk => hc _ _ (h.ev k hk), fun k hk => hc _ _ (h.par k hk), fun k hk => hc _ _ (h.dep k hk), fun k hk => hc _ _ (h.jmp k hk), fun k hk => hc _ _ (h.nd k hk), fun k hk => hc _ _ (h.ty k hk), fun k hk => hc _ _ (h.ky k hk)⟩

theorem GMem.drewN {w : World} {gB nb cap : Nat} {G : PG} (h : GMem w gB nb cap G) (q : Nat) : GMem (w.drewN q) gB nb cap G := h.of fun _ _ e => e

set_option maxHeartbeats 1000000 in
/-- (*authGraph).ancestorAt -/
theorem ancestorAt_any (gB nb cap : Nat) (G : PG) (w : World) (hG : WF G) (hM : GMem w gB nb cap G) (k d : Nat) (hk : k < G.n) (hd : d ≤ G.dep k) :
    Calls Yba.prog 32 #[.pointer (some ⟨gB, 0, none⟩), .int .u32 (k + 1), .int .u32 d] w fun e w' => e = .returned (.int .u32 (upN G (G.dep k - d) (k + 1))) ∧ ∃ q, w' = w.drewN q := by
  have HG := toAside hG
  have HM := toAside hM
  have g0 := hM.g0
  clear hG hM
  go_enter Yba.func32, Yba.ntmps32
  go_wp2
  go_loopg [1] (G.dep k - d) (fun kx s1 wr => ∃ t j q : Nat, s1 = .int .u32 ((j : Int) + 1) ∧ Aside (upN G t (k + 1) = j + 1) ∧ Aside (G.dep j = G.dep k - t) ∧ t ≤ G.dep k - d ∧ j ≤ k ∧ G.dep k - d - t ≤ kx ∧ Hid (wr = w.drewN q))
  case atStart => exact ⟨0, k, 0, rfl, rfl, (rfl : G.dep k = G.dep k - 0), Nat.zero_le _, Nat.le_refl _, by omega, rfl⟩
  case round =>
    obtain ⟨t, j, q, rfl, H1, H2, ht, hjk, hkx, HW⟩ := hrel
    have hjn : j < G.n := by omega
    have M1 : Aside (GMem wr gB nb cap G) := (by rw [HW.out]; exact HM.out.drewN q : GMem wr gB nb cap G)
    have c0 := M1.out.g0
    have c1 := M1.out.dep j hjn
    have c2 := M1.out.jmp j hjn
    have c3 := M1.out.par j hjn
    have j0 : (0 : Int) ≤ (j : Int) := by omega
    have j1 : (j : Int) < (G.n : Int) := by omega
    have hw : IntKind.u32.wrap (j : Int) = j := by have := HG.out.small; rw [IntKind.wrap_u32]; omega
    clear g0
    by_cases he : G.dep j = d
    · have he' : ((G.dep j : Int) == (d : Int)) = true := by simp [he]
      have HE : Aside (G.dep j = d) := he
      clear he
      go_wp2
      go_ret
      refine ⟨?_, q, HW.out⟩
      have e : upN G (G.dep k - d) (k + 1) = j + 1 := by
        have h1 := H2.out; have h2 := HE.out
        rw [show G.dep k - d = t by omega]; exact H1.out
      rw [e]
      rfl
    · have he' : ((G.dep j : Int) == (d : Int)) = false := by simp; omega
      have hgt : d < G.dep j := by have := H2.out; omega
      have hp : G.par j ≠ 0 := fun e => by have := (HG.out.root j hjn e).1; omega
      obtain ⟨p1, p2, tj, t1, t2, t3⟩ := HG.out.kid j hjn hp
      obtain ⟨x, x1, x2, x3⟩ := HG.out.up tj j hjn t2
      have hxj : G.jmp j = x + 1 := t3.symm.trans x1
      have hxn : x < G.n := by omega
      have c4 := M1.out.dep x hxn
      have x0' : (0 : Int) ≤ (x : Int) := by omega
      have x1' : (x : Int) < (G.n : Int) := by omega
      have hwx : IntKind.u32.wrap (x : Int) = x := by have := HG.out.small; rw [IntKind.wrap_u32]; omega
      obtain ⟨y, hy⟩ : ∃ y, G.par j = y + 1 := ⟨G.par j - 1, by omega⟩
      rw [hxj] at c2
      rw [hy] at c3
      rw [show ((x + 1 : Nat) : Int) = (x : Int) + 1 by omega] at c2
      rw [show ((y + 1 : Nat) : Int) = (y : Int) + 1 by omega] at c3
      have HX : Aside (upN G (t + tj) (k + 1) = x + 1) := (by rw [upN_add, H1.out]; exact x1 : upN G (t + tj) (k + 1) = x + 1)
      have HX3 : Aside (G.dep x = G.dep k - (t + tj)) := (by have := H2.out; omega : G.dep x = G.dep k - (t + tj))
      have HY : Aside (upN G (t + 1) (k + 1) = y + 1) := (by rw [upN_add, H1.out]; show st G (j + 1) = y + 1; unfold st; rw [if_neg (by omega), Nat.add_sub_cancel]; exact hy : upN G (t + 1) (k + 1) = y + 1)
      have HY3 : Aside (G.dep y = G.dep k - (t + 1)) := (by have := H2.out; rw [hy, Nat.add_sub_cancel] at p2; omega : G.dep y = G.dep k - (t + 1))
      have hyj : y ≤ k := by omega
      have hxk : x ≤ k := by omega
      have htk : t + 1 ≤ G.dep k - d := by have := H2.out; omega
      clear p1 p2 t3 x1 hxj hy hp he
      by_cases hge : d ≤ G.dep x
      · have hge' : decide (d ≤ G.dep x) = true := decide_eq_true hge
        have htk2 : t + tj ≤ G.dep k - d := by have := HX3.out; have := H2.out; omega
        clear hge x3
        go_wp2
        go_quiet (fail)
        go_wp2
        go_roundg (G.dep k - d - (t + tj))
        case measure => omega
        case rel => exact ⟨t + tj, x, q + nq, by go_num, HX, HX3, htk2, hxk, Nat.le_refl _, (by rw [HW.out, World.drewN_drewN] : wr.drewN nq = w.drewN (q + nq))⟩
      · have hge' : decide (d ≤ G.dep x) = false := decide_eq_false hge
        clear hge x3
        go_wp2
        go_quiet (fail)
        go_wp2
        go_roundg (G.dep k - d - (t + 1))
        case measure => omega
        case rel => exact ⟨t + 1, y, q + nq, by go_num, HY, HY3, htk, hyj, Nat.le_refl _, (by rw [HW.out, World.drewN_drewN] : wr.drewN nq = w.drewN (q + nq))⟩

set_option maxHeartbeats 1000000 in
/-- (*authGraph).descends -/
theorem descends_any (gB nb cap : Nat) (G : PG) (w : World) (hG : WF G) (hM : GMem w gB nb cap G) (h a : Nat) (hh : h < G.n) (ha : a < G.n) :
    Calls Yba.prog 26 #[.pointer (some ⟨gB, 0, none⟩), .pointer (some ⟨G.ev h, 0, none⟩), .pointer (some ⟨G.ev a, 0, none⟩)] w fun e w' => e = .returned (.bool (decide (G.dep a < G.dep h ∧ upN G (G.dep h - G.dep a) (h + 1) = a + 1))) ∧ ∃ q, w' = w.drewN q := by
  have HG := toAside hG
  have HM := toAside hM
  have N1 := toAside (node_any gB nb G.n cap a (G.ev a) w hM.g0 ha hG.small (hM.nd a ha))
  clear hG hM
  go_enter Yba.func26, Yba.ntmps26
  go_wp2_with fail
  refine N1.out.mono ?_
  rintro e w' ⟨rfl, q, rfl⟩
  have M1 := toAside (HM.out.drewN q)
  have HQ : Hid (w.drewN q = w.drewN q) := rfl
  clear N1
  generalize hw1 : w.drewN q = w1 at *
  have HW : Hid (w1 = w.drewN q) := hw1.symm
  clear hw1 HQ
  have c0 := M1.out.dep a ha
  have c1 := M1.out.dep h hh
  have c2 := M1.out.nd h hh
  have c3 := M1.out.nd a ha
  have hn := fun n => node_any gB nb G.n cap h (G.ev h) (w1.drewN n) (M1.out.drewN n).g0 hh HG.out.small ((M1.out.drewN n).nd h hh)
  by_cases hd : G.dep a < G.dep h
  · have ha2 := fun n => ancestorAt_any gB nb cap G (w1.drewN n) HG.out (M1.out.drewN n) h (G.dep a) hh (Nat.le_of_lt hd)
    have hd' : decide (G.dep a < G.dep h) = true := decide_eq_true hd
    generalize hu : upN G (G.dep h - G.dep a) (h + 1) = U at *
    have HU : Hid (upN G (G.dep h - G.dep a) (h + 1) = U) := hu
    clear hu
    go_wp2_with fail
    go_quiet (first | (go_at_call 14; refine Calls.quiet_of (hn _)) | (go_at_call 32; refine Calls.quiet_of (ha2 _)))
    go_wp2
    go_ret
    refine ⟨?_, q + nq, by rw [HW.out, World.drewN_drewN]⟩
    show Ending.returned (Value.bool ((U : Int) == (a : Int) + 1)) = _
    rw [HU.out]
    congr 2
    by_cases hU : U = a + 1
    · subst hU; simp [hd]
    · have hU' : ¬ (U : Int) = (a : Int) + 1 := by omega
      simp [hU, hU']
  · have hd' : decide (G.dep a < G.dep h) = false := decide_eq_false hd
    go_wp2_with fail
    go_quiet (first | (go_at_call 14; refine Calls.quiet_of (hn _)))
    go_wp2
    go_ret
    refine ⟨?_, q + nq, by rw [HW.out, World.drewN_drewN]⟩
    simp [hd]
end Go.Proofs.Ybulkxiu
