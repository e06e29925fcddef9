import Derived.Test.YbulkxiuGraph
import Derived.Ground.NamesProg
import Derived.Shelf.Lay
import Derived.Shelf.Small.Strs
namespace Go.Proofs
open Go.Shelf
shelf_lay Lays.n106 Nm 106 at Yba as Yba.cmpS
end Go.Proofs
namespace Go.Proofs.Ybulkxiu
open Go.RowKit
set_option maxRecDepth 100000

theorem strCmp (a b : ByteArray) (w : World) : Calls Yba.prog 24 #[.string a, .string b] w fun e w' => e = .returned (.int .i64 (Lib.compareBytes a.data.toList b.data.toList)) ∧ w' = w := by
  have h := Go.Proofs.Any.strings_Compare Yba.cmpS a b w
  exact h
def cI (a b : Int) : Int := if a < b then -1 else if b < a then 1 else 0
theorem cmpU (a b : Int) (w : World) : Calls Yba.prog 25 #[.int .u32 a, .int .u32 b] w fun e w' => e = .returned (.int .i64 (cI a b)) ∧ w' = w := by
  by_cases h1 : a < b
  · go_enter Yba.func25, Yba.ntmps25
    go_wp2
    go_ret
    exact ⟨by simp [cI, h1], rfl⟩
  · by_cases h2 : b < a
    · go_enter Yba.func25, Yba.ntmps25
      go_wp2
      go_ret
      exact ⟨by simp [cI, h1, h2], rfl⟩
    · go_enter Yba.func25, Yba.ntmps25
      go_wp2
      go_ret
      have e : cI a b = 0 := by rw [cI, if_neg (by omega), if_neg (by omega)]
      rw [e]
      exact ⟨rfl, rfl⟩

/-- How false stands to true. -/
def cB (a b : Bool) : Int := if a = b then 0 else if a then 1 else -1
theorem ty_cmp (a b : Bool) : Lib.compareBytes (tyS a).data.toList (tyS b).data.toList = cB a b := by cases a <;> cases b <;> decide
theorem ky_cmp (a b : Bool) : Lib.compareBytes (kyS a).data.toList (kyS b).data.toList = cB a b := by cases a <;> cases b <;> decide
/-- The order of reduced: by type, by key, the newest first. -/
def cfN (G : PG) (x y : Nat) : Int := if cB (G.ty x) (G.ty y) = 0 then if cB (G.ky x) (G.ky y) = 0 then cI ((y : Int) + 1) ((x : Int) + 1) else cB (G.ky x) (G.ky y) else cB (G.ty x) (G.ty y)

set_option maxHeartbeats 1000000 in
theorem closure_any (gB nb cap bx : Nat) (G : PG) (w : World) (hG : WF G) (hM : GMem w gB nb cap G) (hb : w.cell? ⟨bx, 0, none⟩ = some (.pointer (some ⟨gB, 0, none⟩))) (x y : Nat) (hx : x < G.n) (hy : y < G.n) :
    Calls Yba.prog 23 #[.int .u32 ((x : Int) + 1), .int .u32 ((y : Int) + 1), .pointer (some ⟨bx, 0, none⟩)] w fun e w' => e = .returned (.int .i64 (cfN G x y)) ∧ ∃ q, w' = w.drewN q := by
  have HG := toAside hG
  have HM := toAside hM
  have e1 : ∀ z, z < G.n → ∀ n, Calls Yba.prog 16 #[.pointer (some ⟨gB, 0, none⟩), .int .u32 ((z : Int) + 1)] (w.drewN n) fun e w' => e = .returned (.pointer (some ⟨G.ev z, 0, none⟩)) ∧ w' = w.drewN n := fun z hz n =>
    (event_any gB nb G.n cap z (G.ev z) (w.drewN n) (HM.out.drewN n).g0 hz hG.small ((HM.out.drewN n).ev z hz)).mono fun _ _ ⟨h1, h2⟩ => ⟨h1, h2.symm⟩
  clear hG hM
  go_enter Yba.func23, Yba.ntmps23
  go_wp2_with fail
  go_quiet (first | (go_at_call 16; refine Calls.quiet_of_same (e1 _ (by assumption) _)))
  clear e1
  have M1 := toAside (HM.out.drewN nq)
  obtain ⟨w1, hw1⟩ : ∃ w1, w1 = w.drewN nq := ⟨_, rfl⟩
  rw [← hw1] at M1 ⊢
  have HW : Hid (w1 = w.drewN nq) := hw1
  clear hw1 hb HM
  have c1 := M1.out.ty x hx
  have c2 := M1.out.ty y hy
  have s1 : ∀ n, Calls Yba.prog 24 #[.string (tyS (G.ty x)), .string (tyS (G.ty y))] (w1.drewN n) fun e w' => e = .returned (.int .i64 (cB (G.ty x) (G.ty y))) ∧ w' = w1.drewN n := fun n => by
    have := strCmp (tyS (G.ty x)) (tyS (G.ty y)) (w1.drewN n); rwa [ty_cmp] at this
  by_cases hc : cB (G.ty x) (G.ty y) = 0
  · have hc' : (cB (G.ty x) (G.ty y) != 0) = false := by simp [hc]
    have HC : Hid (cB (G.ty x) (G.ty y) = 0) := hc
    clear hc
    go_wp2_with fail
    go_quiet (first | (go_at_call 24; refine Calls.quiet_of_same (s1 _)))
    clear s1 c1 c2
    have M2 := toAside (M1.out.drewN nq)
    obtain ⟨w2, hw2⟩ : ∃ w2, w2 = w1.drewN nq := ⟨_, rfl⟩
    rw [← hw2] at M2 ⊢
    have HW2 : Hid (w2 = w1.drewN nq) := hw2
    clear hw2
    have c3 := M2.out.ky x hx
    have c4 := M2.out.ky y hy
    have s2 : ∀ n, Calls Yba.prog 24 #[.string (kyS (G.ky x)), .string (kyS (G.ky y))] (w2.drewN n) fun e w' => e = .returned (.int .i64 (cB (G.ky x) (G.ky y))) ∧ w' = w2.drewN n := fun n => by
      have := strCmp (kyS (G.ky x)) (kyS (G.ky y)) (w2.drewN n); rwa [ky_cmp] at this
    by_cases hd : cB (G.ky x) (G.ky y) = 0
    · have hd' : (cB (G.ky x) (G.ky y) != 0) = false := by simp [hd]
      have HD : Hid (cfN G x y = cI ((y : Int) + 1) ((x : Int) + 1)) := by show _ = _; unfold cfN; rw [if_pos HC.out, if_pos hd]
      clear hd
      go_wp2_with fail
      go_quiet (first | (go_at_call 24; refine Calls.quiet_of_same (s2 _)))
      clear s2 c3 c4
      go_wp2_with (go_at_call 25; refine (cmpU _ _ _).mono ?_; rintro e w' ⟨rfl, rfl⟩)
      go_ret
      refine ⟨by rw [HD.out]; rfl, ?_⟩
      rw [HW2.out, HW.out, World.drewN_drewN]
      exact ⟨_, World.drewN_drewN _ _ _⟩
    · have hd' : (cB (G.ky x) (G.ky y) != 0) = true := by simp [hd]
      have HD : Hid (cfN G x y = cB (G.ky x) (G.ky y)) := by show _ = _; unfold cfN; rw [if_pos HC.out, if_neg hd]
      clear hd
      go_wp2_with fail
      go_quiet (first | (go_at_call 24; refine Calls.quiet_of_same (s2 _)))
      clear s2 c3 c4
      go_wp2
      go_ret
      refine ⟨by rw [HD.out]; rfl, ?_⟩
      rw [HW2.out, HW.out, World.drewN_drewN]
      exact ⟨_, World.drewN_drewN _ _ _⟩
  · have hc' : (cB (G.ty x) (G.ty y) != 0) = true := by simp [hc]
    have HC : Hid (cfN G x y = cB (G.ty x) (G.ty y)) := by show _ = _; unfold cfN; rw [if_neg hc]
    clear hc
    go_wp2_with fail
    go_quiet (first | (go_at_call 24; refine Calls.quiet_of_same (s1 _)))
    clear s1
    go_wp2
    go_ret
    refine ⟨by rw [HC.out]; rfl, ?_⟩
    rw [HW.out]
    exact ⟨_, World.drewN_drewN _ _ _⟩
end Go.Proofs.Ybulkxiu
