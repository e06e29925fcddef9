import Derived.Test.YbulkxfoRows
import Derived.Test.YbulkxfoWalk4
import Derived.ProofKit
import Derived.OpenShut
import Derived.ShutString
import Derived.ChangeOld
import Derived.Below
import Derived.Deep.Slices
namespace Go.Proofs.Ybulkxfo
open Go.ChangeShapes Go.WideShapes Go.ChangeAt Go.RowKit
theorem add_flat (b o i : Nat) : (⟨b, o, none⟩ : Addr).add i = ⟨b, o + i, none⟩ := by unfold Addr.add; split <;> simp_all
theorem Yba.cells34 : Yba.prog.cellsOf 34 = 3 := by kernel_rfl
theorem Yba.cells2 : Yba.prog.cellsOf 2 = 1 := by kernel_rfl
theorem Yba.cells5 : Yba.prog.cellsOf 5 = 1 := by kernel_rfl
theorem of_u8 {n : Int} (h : (Lit.int .u8 n).wf = true) : 0 ≤ n ∧ n ≤ 255 := by
  simp only [Lit.wf, Bool.and_eq_true, decide_eq_true_eq] at h
  exact ⟨h.1, h.2⟩
set_option maxRecDepth 100000 in
theorem open_item {H : Type} {enc : TypeId × Value → H} {w : World} {base : Nat} {spare : Nat → Bool} {held : Bool} {fuel : Nat} {cs : List Value} {x : DataW H × List MemPlace}
    (h : DataW.trod enc Yba.prog w base spare held fuel 34 cs = some x) : ∃ a d s, cs = [.int .u8 a, .int .u8 d, .int .i64 s] ∧ 0 ≤ a ∧ a ≤ 255 ∧ 0 ≤ d ∧ d ≤ 255 := by
  obtain ⟨xs, n, _, _, hlen, hxl, hf⟩ := DataW.trod_struct Yba.underlying34 h
  rw [Yba.cells34] at hlen
  match cs, hlen with
  | [c0, c1, c2], _ =>
  match xs, hxl with
  | [y0, y1, y2], _ =>
  have f0 := hf 0 _ rfl
  have f1 := hf 1 _ rfl
  have f2 := hf 2 _ rfl
  simp [Yba.cells2, Yba.cells5] at f0 f1 f2
  obtain ⟨b0, e0, g0⟩ := DataW.trod_int Yba.underlying5 f0
  obtain ⟨b1, e1, g1⟩ := DataW.trod_int Yba.underlying5 f1
  obtain ⟨b2, e2, g2⟩ := DataW.trod_int Yba.underlying2 f2
  simp at e0 e1 e2
  have u0 := of_u8 g0.2
  have u1 := of_u8 g1.2
  exact ⟨b0, b1, b2, by rw [e0, e1, e2], u0.1, u0.2, u1.1, u1.2⟩
theorem open_lots {H : Type} {enc : TypeId × Value → H} {w : World} {base : Nat} {spare : Nat → Bool} {held : Bool} {fuel : Nat} {a : Option Addr} {len cap : Nat} {x : DataW H × List MemPlace}
    (h : DataW.trod enc Yba.prog w base spare held fuel 22 [.slice a len cap] = some x) : IsLots w a len := by
  rcases Deep.open_slice Yba.underlying22 h with ⟨hcs, _⟩ | ⟨a', len', cap', m, n, D, Pl, hcs, _, hl, _, hm, _, hx⟩
  · simp at hcs
    obtain ⟨rfl, rfl, rfl⟩ := hcs
    exact ⟨0, 0, fun h => absurd h (by omega), fun i hi => absurd hi (by omega)⟩
  · simp at hcs
    obtain ⟨rfl, rfl, rfl⟩ := hcs
    have hml : len ≤ m := by rw [hm]; split <;> omega
    rw [Yba.cells34] at hx
    obtain ⟨b, o, sp⟩ := a'
    by_cases h0 : 0 < len
    · have hsp : sp = none := by
        obtain ⟨cs', hc, ht⟩ := hx 0 (by omega)
        obtain ⟨f, fr, ow, rfl, _⟩ := open_item ht
        obtain ⟨_, _, hcell⟩ := World.cells?_some hc
        have h1 := hcell 0 (by omega)
        simpa [Addr.add] using World.cell?_spot h1
      subst hsp
      refine ⟨b, o, fun _ => ⟨rfl, ?_⟩, fun i hi => ?_⟩
      · obtain ⟨cs', hc, ht⟩ := hx 0 (by omega)
        obtain ⟨f, fr, ow, rfl, _⟩ := open_item ht
        obtain ⟨_, _, hcell⟩ := World.cells?_some hc
        have h1 := hcell 0 (by omega)
        simpa [Addr.add] using World.block_lt_of_cell? w _ h1
      · obtain ⟨cs', hc, ht⟩ := hx i (by omega)
        obtain ⟨f, fr, ow, rfl, hb⟩ := open_item ht
        obtain ⟨_, _, hcell⟩ := World.cells?_some hc
        simp only [add_flat] at hcell
        exact ⟨f, fr, ow, hcell 0 (by omega), hcell 1 (by omega), hcell 2 (by omega), hb⟩
    · exact ⟨0, 0, fun h => absurd h h0, fun i hi => absurd hi (by omega)⟩
theorem own : ownKnob Yba.prog.godebug = none := by kernel_rfl
theorem laidOut : laidOutB Yba.prog = true := by kernel_rfl
end Go.Proofs.Ybulkxfo
