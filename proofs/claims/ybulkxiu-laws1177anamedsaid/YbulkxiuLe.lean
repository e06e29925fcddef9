import Derived.Test.YbulkxiuEs
namespace Go.Proofs.Ybulkxiu
open Go.RowKit
set_option maxRecDepth 100000
/-- A row of numbers, as it reads. -/
def RdL (w : World) (v : Value) (l : List Nat) : Prop := ∃ a c, v = .slice a l.length c ∧ ∀ j, j < l.length → ∃ b, a = some ⟨b, 0, none⟩ ∧ w.cell? ⟨b, j, none⟩ = some (.int .u32 ((l.getD j 0 : Nat) : Int))
theorem RowF.rdl {B0 : Nat} {w : World} {tg : Nat → Nat} {T : Nat} {v : Value} {l : List Nat} (h : RowL B0 w tg T v l) : RdL w v l := by
  obtain ⟨a, c, h1, _, h3⟩ := h.form
  refine ⟨a, c, h1, fun j hj => ?_⟩
  obtain ⟨b, hb, _, _, _, h4, _⟩ := h3 (by omega)
  exact ⟨b, hb, h4 j (by omega)⟩
theorem RdL.drewN {w : World} {v : Value} {l : List Nat} (h : RdL w v l) (q : Nat) : RdL (w.drewN q) v l := h
set_option maxHeartbeats 2000000 in
/-- slices.Equal, of two rows that read alike. -/
theorem equal_any (w : World) (v1 v2 : Value) (l : List Nat) (h1 : RdL w v1 l) (h2 : RdL w v2 l) (hl : l.length ≤ 1000000) : Calls Yba.prog 6 #[v1, v2] w fun e w' => e = .returned (.bool true) ∧ ∃ q, w' = w.drewN q := by
  obtain ⟨a1, c1, rfl, k1⟩ := h1
  obtain ⟨a2, c2, rfl, k2⟩ := h2
  have K1 := toAside k1
  have K2 := toAside k2
  clear k1 k2
  go_enter Yba.func6, Yba.ntmps6
  go_wp2
  go_loopg [13] l.length (fun kx s13 wr => ∃ t q : Nat, s13 = .int .i64 t ∧ t ≤ l.length ∧ l.length - t ≤ kx ∧ Hid (wr = w.drewN q))
  case atStart => exact ⟨0, 0, rfl, Nat.zero_le _, by omega, rfl⟩
  case round =>
    obtain ⟨t, q, rfl, htn, hkx, HW⟩ := hrel
    by_cases hlt : t < l.length
    · obtain ⟨b1, rfl, x1⟩ := K1.out t hlt
      obtain ⟨b2, rfl, x2⟩ := K2.out t hlt
      have y1 : wr.cell? ⟨b1, t, none⟩ = some (.int .u32 ((l.getD t 0 : Nat) : Int)) := by rw [HW.out]; exact x1
      have y2 : wr.cell? ⟨b2, t, none⟩ = some (.int .u32 ((l.getD t 0 : Nat) : Int)) := by rw [HW.out]; exact x2
      have t0 : (0 : Int) ≤ (t : Int) := by omega
      have t1 : (t : Int) < (l.length : Int) := by omega
      obtain ⟨x, hx⟩ : ∃ x, x = l.getD t 0 := ⟨_, rfl⟩
      rw [← hx] at y1 y2
      clear hx x1 x2
      go_wp2_with fail
      go_quiet (fail)
      go_wp2
      go_roundg (l.length - (t + 1))
      case measure => omega
      case rel =>
        exact ⟨t + 1, q + nq, by go_num, by omega, Nat.le_refl _, (by rw [HW.out, World.drewN_drewN] : wr.drewN nq = w.drewN (q + nq))⟩
    · obtain rfl : t = l.length := by omega
      have ht' : ¬ (l.length : Int) < (l.length : Int) := by omega
      go_wp2
      go_ret
      exact ⟨rfl, q, HW.out⟩
end Go.Proofs.Ybulkxiu
