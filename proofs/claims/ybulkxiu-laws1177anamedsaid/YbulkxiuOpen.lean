import Derived.Test.YbulkxiuRows
import Derived.Test.YbulkxiuBj
import Derived.ProofKit
import Derived.OpenShut
import Derived.ShutString
import Derived.ChangeOld
import Derived.Below
import Derived.Deep.Slices
namespace Go.Proofs.Ybulkxiu
open Go.ChangeShapes Go.WideShapes Go.ChangeAt Go.RowKit
theorem add_flat (b o i : Nat) : (⟨b, o, none⟩ : Addr).add i = ⟨b, o + i, none⟩ := by unfold Addr.add; split <;> simp_all
theorem Yba.cells73 : Yba.prog.cellsOf 73 = 4 := by kernel_rfl
theorem Yba.cells5 : Yba.prog.cellsOf 5 = 1 := by kernel_rfl
theorem Yba.cells53 : Yba.prog.cellsOf 53 = 1 := by kernel_rfl
theorem of_u8 {n : Int} (h : (Lit.int .u8 n).wf = true) : 0 ≤ n ∧ n ≤ 255 := by
  simp only [Lit.wf, Bool.and_eq_true, decide_eq_true_eq] at h
  exact ⟨h.1, h.2⟩
/-- A row of bytes, as it reads. -/
def Byts (w : World) (ca : Option Addr) (cl : Nat) (ct : Nat → Nat) : Prop := ∀ t, t < cl → ∃ b o, ca = some ⟨b, o, none⟩ ∧ w.cell? ⟨b, o + t, none⟩ = some (.int .u8 (ct t : Nat)) ∧ ct t < 256
theorem open_byts {H : Type} {enc : TypeId × Value → H} {w : World} {base : Nat} {spare : Nat → Bool} {held : Bool} {fuel : Nat} {c : Value} {x : DataW H × List MemPlace}
    (h : DataW.trod enc Yba.prog w base spare held fuel 53 [c] = some x) : ∃ ca cl cc ct, c = .slice ca cl cc ∧ cl ≤ 9223372036854775807 ∧ Byts w ca cl ct := by
  rcases Deep.open_slice1 Yba.underlying53 Yba.cells5 h with ⟨hcs, _⟩ | ⟨a', len', cap', m, n, V, D, Pl, hcs, _, hl, hmax, hm, _, hx⟩
  · have hc : c = .slice none 0 0 := by simpa using hcs
    exact ⟨none, 0, 0, fun _ => 0, hc, by omega, fun t ht => absurd ht (by omega)⟩
  · have hc : c = .slice (some a') len' cap' := by simpa using hcs
    have hml : len' ≤ m := by rw [hm]; split <;> omega
    obtain ⟨b, o, sp⟩ := a'
    have hmx : len' ≤ 9223372036854775807 := by unfold maxLen at hmax; omega
    by_cases hz : 0 < len'
    · have hsp : sp = none := by
        have h1 := (hx 0 (by omega)).1
        simpa [Addr.add] using World.cell?_spot h1
      subst hsp
      have hv : ∀ t, ∃ v : Nat, t < len' → w.cell? ⟨b, o + t, none⟩ = some (.int .u8 (v : Int)) ∧ v < 256 := fun t => by
        by_cases ht : t < len'
        · obtain ⟨h1, h2⟩ := hx t (by omega)
          rw [add_flat] at h1
          obtain ⟨b0, e0, g0⟩ := DataW.trod_int Yba.underlying5 h2
          have e1 : V t = .int .u8 b0 := by simpa using e0
          have u := of_u8 g0.2
          refine ⟨b0.toNat, fun _ => ⟨?_, by omega⟩⟩
          rw [h1, e1, Int.toNat_of_nonneg u.1]
        · exact ⟨0, fun q => absurd q ht⟩
      refine ⟨some ⟨b, o, none⟩, len', cap', fun t => Classical.choose (hv t), hc, hmx, fun t ht => ?_⟩
      obtain ⟨h1, h2⟩ := Classical.choose_spec (hv t) ht
      exact ⟨b, o, rfl, h1, h2⟩
    · exact ⟨some ⟨b, o, sp⟩, len', cap', fun _ => 0, hc, hmx, fun t ht => absurd ht (by omega)⟩
/-- A step's four cells. -/
def StepAt (w : World) (b o : Nat) (d : StepD) : Prop :=
  w.cell? ⟨b, o, none⟩ = some (.int .u8 (d.kind : Nat)) ∧ w.cell? ⟨b, o + 1, none⟩ = some (.int .u8 (d.typ : Nat)) ∧ w.cell? ⟨b, o + 2, none⟩ = some (.int .u8 (d.key : Nat)) ∧
  d.kind < 256 ∧ d.typ < 256 ∧ d.key < 256 ∧ d.cl ≤ 9223372036854775807 ∧ ∃ ca cc, w.cell? ⟨b, o + 3, none⟩ = some (.slice ca d.cl cc) ∧ Byts w ca d.cl d.ct
set_option maxRecDepth 100000 in
theorem open_step {H : Type} {enc : TypeId × Value → H} {w : World} {base : Nat} {spare : Nat → Bool} {held : Bool} {fuel : Nat} {cs : List Value} {x : DataW H × List MemPlace}
    (h : DataW.trod enc Yba.prog w base spare held fuel 73 cs = some x) : ∃ (d : StepD) (ca : Option Addr) (cc : Nat), cs = [.int .u8 (d.kind : Nat), .int .u8 (d.typ : Nat), .int .u8 (d.key : Nat), .slice ca d.cl cc] ∧ d.kind < 256 ∧ d.typ < 256 ∧ d.key < 256 ∧ d.cl ≤ 9223372036854775807 ∧ Byts w ca d.cl d.ct := by
  obtain ⟨xs, n, _, _, hlen, hxl, hf⟩ := DataW.trod_struct Yba.underlying73 h
  rw [Yba.cells73] at hlen
  match cs, hlen with
  | [c0, c1, c2, c3], _ =>
  match xs, hxl with
  | [y0, y1, y2, y3], _ =>
  have f0 := hf 0 _ rfl
  have f1 := hf 1 _ rfl
  have f2 := hf 2 _ rfl
  have f3 := hf 3 _ rfl
  simp [Yba.cells5, Yba.cells53] at f0 f1 f2 f3
  obtain ⟨b0, e0, g0⟩ := DataW.trod_int Yba.underlying5 f0
  obtain ⟨b1, e1, g1⟩ := DataW.trod_int Yba.underlying5 f1
  obtain ⟨b2, e2, g2⟩ := DataW.trod_int Yba.underlying5 f2
  obtain ⟨ca, cl, cc, ct, e3, hcl, hby⟩ := open_byts f3
  simp at e0 e1 e2
  have u0 := of_u8 g0.2
  have u1 := of_u8 g1.2
  have u2 := of_u8 g2.2
  refine ⟨⟨b0.toNat, b1.toNat, b2.toNat, cl, ct⟩, ca, cc, ?_, by show b0.toNat < 256; omega, by show b1.toNat < 256; omega, by show b2.toNat < 256; omega, hcl, hby⟩
  rw [e0, e1, e2, e3]
  show _ = [Value.int .u8 (b0.toNat : Nat), .int .u8 (b1.toNat : Nat), .int .u8 (b2.toNat : Nat), .slice ca cl cc]
  rw [Int.toNat_of_nonneg u0.1, Int.toNat_of_nonneg u1.1, Int.toNat_of_nonneg u2.1]
theorem open_steps {H : Type} {enc : TypeId × Value → H} {w : World} {base : Nat} {spare : Nat → Bool} {held : Bool} {fuel : Nat} {a : Option Addr} {len cap : Nat} {x : DataW H × List MemPlace}
    (h : DataW.trod enc Yba.prog w base spare held fuel 22 [.slice a len cap] = some x) : ∃ sb so D, (0 < len → a = some ⟨sb, so, none⟩) ∧ StepMem w sb so len D := by
  rcases Deep.open_slice Yba.underlying22 h with ⟨hcs, _⟩ | ⟨a', len', cap', m, n, D, Pl, hcs, _, hl, _, hm, _, hx⟩
  · simp at hcs
    obtain ⟨rfl, rfl, rfl⟩ := hcs
    exact ⟨0, 0, fun _ => ⟨0, 0, 0, 0, fun _ => 0⟩, fun h => absurd h (by omega), fun i hi => absurd hi (by omega)⟩
  · simp at hcs
    obtain ⟨rfl, rfl, rfl⟩ := hcs
    have hml : len ≤ m := by rw [hm]; split <;> omega
    rw [Yba.cells73] at hx
    obtain ⟨b, o, sp⟩ := a'
    by_cases h0 : 0 < len
    · have hsp : sp = none := by
        obtain ⟨cs', hc, ht⟩ := hx 0 (by omega)
        obtain ⟨d, ca, cc, rfl, _⟩ := open_step ht
        obtain ⟨_, _, hcell⟩ := World.cells?_some hc
        have h1 := hcell 0 (by omega)
        simpa [Addr.add] using World.cell?_spot h1
      subst hsp
      have hd : ∀ j, ∃ d : StepD, j < len → StepAt w b (o + j * 4) d := fun j => by
        by_cases hj : j < len
        · obtain ⟨cs', hc, ht⟩ := hx j (by omega)
          obtain ⟨d, ca, cc, rfl, b1, b2, b3, b4, b5⟩ := open_step ht
          obtain ⟨_, _, hcell⟩ := World.cells?_some hc
          simp only [add_flat] at hcell
          exact ⟨d, fun _ => ⟨hcell 0 (by omega), hcell 1 (by omega), hcell 2 (by omega), b1, b2, b3, b4, ca, cc, hcell 3 (by omega), b5⟩⟩
        · exact ⟨⟨0, 0, 0, 0, fun _ => 0⟩, fun q => absurd q hj⟩
      refine ⟨b, o, fun j => Classical.choose (hd j), fun _ => rfl, fun j hj => ?_⟩
      obtain ⟨k0, k1, k2, k3, k4, k5, k6, ca, cc, k7, k8⟩ := Classical.choose_spec (hd j) hj
      exact ⟨k0, k1, k2, k3, k4, k5, k6, ca, cc, k7, fun t ht _ => k8 t ht⟩
    · exact ⟨0, 0, fun _ => ⟨0, 0, 0, 0, fun _ => 0⟩, fun h => absurd h h0, fun i hi => absurd hi (by omega)⟩
theorem own : ownKnob Yba.prog.godebug = none := by kernel_rfl
theorem laidOut : laidOutB Yba.prog = true := by kernel_rfl
end Go.Proofs.Ybulkxiu
