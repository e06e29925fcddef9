import Derived.Test.YbulkxheRows
import Derived.Test.YbulkxheWalk4
import Derived.WalkKit
import Derived.ProofKit
import Derived.OpenShut
import Derived.ShutString
import Derived.ChangeOld
import Derived.Below
import Derived.Deep.Slices
namespace Go.Proofs.Ybulkxhe
open Go.ChangeShapes Go.WideShapes Go.ChangeAt Go.RowKit
theorem add_flat (b o i : Nat) : (⟨b, o, none⟩ : Addr).add i = ⟨b, o + i, none⟩ := by unfold Addr.add; split <;> simp_all
theorem Yba.cells23 : Yba.prog.cellsOf 23 = 6 := by kernel_rfl
theorem Yba.cells3 : Yba.prog.cellsOf 3 = 1 := by kernel_rfl
theorem Yba.cells4 : Yba.prog.cellsOf 4 = 1 := by kernel_rfl
theorem Yba.cells5 : Yba.prog.cellsOf 5 = 1 := by kernel_rfl
theorem Yba.cells9 : Yba.prog.cellsOf 9 = 1 := by kernel_rfl
set_option maxRecDepth 100000 in
theorem open_item {H : Type} {enc : TypeId × Value → H} {w : World} {base : Nat} {spare : Nat → Bool} {held : Bool} {fuel : Nat} {cs : List Value} {x : DataW H × List MemPlace}
    (h : DataW.trod enc Yba.prog w base spare held fuel 23 cs = some x) : ∃ f fr ow rd kd s, cs = [.bool f, .int .i64 fr, .int .i64 ow, .int .i64 rd, .int .u8 kd, .string s] := by
  obtain ⟨xs, n, _, _, hlen, hxl, hf⟩ := DataW.trod_struct Yba.underlying23 h
  rw [Yba.cells23] at hlen
  match cs, hlen with
  | [c0, c1, c2, c3, c4, c5], _ =>
  match xs, hxl with
  | [y0, y1, y2, y3, y4, y5], _ =>
  have f0 := hf 0 _ rfl
  have f1 := hf 1 _ rfl
  have f2 := hf 2 _ rfl
  have f3 := hf 3 _ rfl
  have f4 := hf 4 _ rfl
  have f5 := hf 5 _ rfl
  simp [Yba.cells3, Yba.cells4, Yba.cells5, Yba.cells9] at f0 f1 f2 f3 f4 f5
  obtain ⟨b0, e0, _⟩ := DataW.trod_bool Yba.underlying4 f0
  obtain ⟨b1, e1, _⟩ := DataW.trod_int Yba.underlying3 f1
  obtain ⟨b2, e2, _⟩ := DataW.trod_int Yba.underlying3 f2
  obtain ⟨b3, e3, _⟩ := DataW.trod_int Yba.underlying3 f3
  obtain ⟨b4, e4, _⟩ := DataW.trod_int Yba.underlying5 f4
  obtain ⟨b5, e5, _⟩ := DataW.trod_string Yba.underlying9 f5
  simp at e0 e1 e2 e3 e4 e5
  exact ⟨b0, b1, b2, b3, b4, b5, by rw [e0, e1, e2, e3, e4, e5]⟩
theorem open_items {H : Type} {enc : TypeId × Value → H} {w : World} {base : Nat} {spare : Nat → Bool} {held : Bool} {fuel : Nat} {a : Option Addr} {len cap : Nat} {x : DataW H × List MemPlace}
    (h : DataW.trod enc Yba.prog w base spare held fuel 45 [.slice a len cap] = some x) : IsItems w a len := by
  rcases Deep.open_slice Yba.underlying45 h with ⟨hcs, _⟩ | ⟨a', len', cap', m, n, D, Pl, hcs, _, hl, _, hm, _, hx⟩
  · simp at hcs
    obtain ⟨rfl, rfl, rfl⟩ := hcs
    exact ⟨0, 0, fun h => absurd h (by omega), fun i hi => absurd hi (by omega)⟩
  · simp at hcs
    obtain ⟨rfl, rfl, rfl⟩ := hcs
    have hml : len ≤ m := by rw [hm]; split <;> omega
    rw [Yba.cells23] at hx
    obtain ⟨b, o, sp⟩ := a'
    by_cases h0 : 0 < len
    · have hsp : sp = none := by
        obtain ⟨cs', hc, ht⟩ := hx 0 (by omega)
        obtain ⟨f, fr, ow, rd, kd, s, rfl⟩ := open_item ht
        obtain ⟨_, _, hcell⟩ := World.cells?_some hc
        have h1 := hcell 0 (by omega)
        simpa [Addr.add] using World.cell?_spot h1
      subst hsp
      refine ⟨b, o, fun _ => ⟨rfl, ?_⟩, fun i hi => ?_⟩
      · obtain ⟨cs', hc, ht⟩ := hx 0 (by omega)
        obtain ⟨f, fr, ow, rd, kd, s, rfl⟩ := open_item ht
        obtain ⟨_, _, hcell⟩ := World.cells?_some hc
        have h1 := hcell 0 (by omega)
        simpa [Addr.add] using World.block_lt_of_cell? w _ h1
      · obtain ⟨cs', hc, ht⟩ := hx i (by omega)
        obtain ⟨f, fr, ow, rd, kd, s, rfl⟩ := open_item ht
        obtain ⟨_, _, hcell⟩ := World.cells?_some hc
        simp only [add_flat] at hcell
        exact ⟨f, fr, ow, rd, kd, s, hcell 0 (by omega), hcell 1 (by omega), hcell 2 (by omega), hcell 3 (by omega), hcell 4 (by omega), hcell 5 (by omega)⟩
    · exact ⟨0, 0, fun h => absurd h h0, fun i hi => absurd hi (by omega)⟩
theorem own : ownKnob Yba.prog.godebug = none := by kernel_rfl
theorem laidOut : laidOutB Yba.prog = true := by kernel_rfl
set_option maxRecDepth 100000 in
theorem lifted (os : Os) (started : os.Started) (H : Type) (enc : TypeId × Value → H) :
    ReturnsInHanded {} Yba.checked os 4 .any (Rows.lawS1174ASignedInSpec.pre6 enc Yba.prog Yba.f4 Rows.lawS1174ASignedInRow.domain false) (Rows.lawS1174ASignedInSpec.post enc Yba.prog Yba.f4 false true false false) := by
  refine returnsInHanded_of_change (C := Yba.checked) own started (by kernel_rfl) Yba.func4
    (ChangeSpec.witness6 (enc := enc) (C := Yba.checked) false ⟨#[], #[.slice none 0 0], []⟩ 8 (by kernel_rfl) (by kernel_rfl) (by kernel_rfl) (by kernel_rfl)) ?_
  intro W base args ds gs before hval0 hW hcnd _
  have hval : ∀ (j : Nat) t v, Yba.f4.params[j]? = some t → args[j]? = some v → Value.okWide Yba.prog W .any base t v := hval0
  have hW' := hW
  obtain ⟨p, q, hA0, hV, rfl, hfz, hnd⟩ := hW
  have hA : DataW.TrodAll enc Yba.prog W 0 (fun _ => true) true Yba.f4.params.toList args.toList ds p := hA0
  rw [Yba.params4] at hA hval
  obtain ⟨v0, vs0, d0, ds0, p0, q0, hargs, rfl, rfl, h0, r0⟩ := trodAll_cons hA
  obtain ⟨rfl, rfl, rfl⟩ := trodAll_nil r0
  obtain rfl : args = #[v0] := by cases args; simp_all
  obtain ⟨rfl, rfl⟩ := trodVars_none hV
  obtain ⟨a0, len0, cap0, rfl⟩ := okWide_slice Yba.underlying45 (hval 0 45 v0 rfl rfl)
  have k0 := h0
  have lt0 : ∀ x ∈ p0, x.block < W.heap.size := by obtain ⟨m, hm⟩ := k0; exact DataW.trod_lt m _ _ _ hm
  have w0 : IsItems W a0 len0 := by
    obtain ⟨fuel, hf⟩ := h0
    exact open_items (cap := cap0) (by simpa [Value.cells] using hf)
  clear hA0 hval0
  refine (walk a0 len0 cap0 W w0).mono fun e W' ⟨he, bel⟩ => ?_
  subst he
  exact ⟨_, rfl, _, _, _, [], _, [], hW', trodAll_mk1 (shut_bool Yba.underlying4 _), (trodAll_cons_mk (Below.trod laidOut (by kernel_rfl) (of_decide_eq_true (by kernel_rfl)) k0 bel lt0) trodAll_mk0), rfl, bel.frame _, fun h => by cases h⟩

theorem over : Rows.lawS1174ASignedInRow.holds Yba.pinned (OpenSpec.ofChange Rows.lawS1174ASignedInSpec) :=
  OpenClaim.holds_of_wide 4 Yba.f4 rfl rfl rfl rfl rfl rfl rfl ⟨rfl, rfl, rfl, rfl, rfl⟩ rfl rfl rfl rfl rfl (by kernel_rfl) Yba.func4 (by kernel_rfl)
    (of_decide_eq_true (by kernel_rfl)) (by unfold Func.isWrapper; first | (rw [if_pos (by decide +kernel)]; kernel_rfl) | (rw [if_neg (by decide +kernel)]; exact ⟨rfl, rfl⟩))
    (fun os started H enc _ => lifted os started H enc)

/-- THE STATEMENT. -/
theorem signedIn_proved : Rows.LawS1174ASignedInSaid := over
end Go.Proofs.Ybulkxhe
