import Derived.Test.YbulkxiuNil
import Derived.Maps.Own
import Derived.Maps.OwnSet
import Derived.Maps.Views
namespace Go.Proofs.Ybulkxiu
open Go.RowKit Go.Maps

/-- An element reads as itself. -/
def RV (v : Value) : Option (DataW Value × List MemPlace) := some (.held v, [])
/-- Block b is a map of at most n entries, from integers of kind q; f: what it holds. -/
def MapV (w : World) (k : TypeId) (q : IntKind) (b n : Nat) (f : Int → Option Value) : Prop :=
  ∃ D : DataW Value, w.ownsMap Yba.prog k RV b n D ∧ ∀ x, (Lit.int q x).wf = true → (∀ v, f x = some v → Maps.has D (.int q x) = true ∧ ∀ z, D.atKey (.int q x) z = .held v) ∧ (f x = none → Maps.has D (.int q x) = false)
variable {w : World} {k : TypeId} {q : IntKind} {b n : Nat} {f : Int → Option Value}
theorem MapV.made (w : World) (k : TypeId) (q : IntKind) : MapV (w.alloc (.map #[] 0)) k q w.heap.size 0 fun _ => none :=
  ⟨.map [], World.ownsMap_made w _ k RV, fun _ _ => ⟨fun v h => by simp at h, fun _ => rfl⟩⟩
theorem MapV.lt (h : MapV w k q b n f) : b < w.heap.size := by obtain ⟨D, h, _⟩ := h; exact h.lt
theorem MapV.of {w' : World} (h : MapV w k q b n f) (e : w'.heap[b]? = w.heap[b]?) : MapV w' k q b n f := by
  obtain ⟨D, ⟨es, c, hb, r⟩, h2⟩ := h
  exact ⟨D, ⟨es, c, e.trans hb, r⟩, h2⟩
theorem RV_inj {v : Value} {d : DataW Value} {ps : List MemPlace} (h : RV v = some (d, ps)) : d = .held v := by
  unfold RV at h; cases h; rfl
theorem MapV.look_ok {t e : TypeId} (h : MapV w k q b n f) (hk : Yba.prog.underlying k = some (.int q)) (ht : Yba.prog.underlying t = some (.map k e)) {z : Value} (hz : (zeroValue e).run Yba.prog w = .ok z w) {x : Int} (hx : (Lit.int q x).wf = true) :
    (Instr.lookup t (.map (some b)) (.int q x) true).run Yba.prog w = .ok (.tuple #[(f x).getD z, .bool (f x).isSome]) w := by
  obtain ⟨D, h1, h2⟩ := h
  obtain ⟨v, ps, hr, hv⟩ := h1.look_ok (int_keyed hk) ht hz (rfl : RV z = some (.held z, [])) (keyOf_int_mk hk hx)
  have hv := RV_inj hv
  rw [hr]
  cases hf : f x with
  | none =>
    have hh := (h2 x hx).2 hf
    rw [atKey_of_not_has hh] at hv
    cases hv
    rw [hh]; rfl
  | some u =>
    obtain ⟨hh, ha⟩ := (h2 x hx).1 u hf
    rw [ha] at hv
    cases hv
    rw [hh]; rfl
theorem MapV.look {t e : TypeId} (h : MapV w k q b n f) (hk : Yba.prog.underlying k = some (.int q)) (ht : Yba.prog.underlying t = some (.map k e)) {z : Value} (hz : (zeroValue e).run Yba.prog w = .ok z w) {x : Int} (hx : (Lit.int q x).wf = true) :
    (Instr.lookup t (.map (some b)) (.int q x) false).run Yba.prog w = .ok ((f x).getD z) w := by
  obtain ⟨D, h1, h2⟩ := h
  obtain ⟨v, ps, hr, hv⟩ := h1.lookup (int_keyed hk) ht hz (rfl : RV z = some (.held z, [])) (keyOf_int_mk hk hx)
  have hv := RV_inj hv
  rw [hr]
  cases hf : f x with
  | none =>
    have hh := (h2 x hx).2 hf
    rw [atKey_of_not_has hh] at hv
    cases hv
    rfl
  | some u =>
    obtain ⟨hh, ha⟩ := (h2 x hx).1 u hf
    rw [ha] at hv
    cases hv
    rfl
theorem MapV.update {t e : TypeId} (h : MapV w k q b n f) (hk : Yba.prog.underlying k = some (.int q)) (ht : Yba.prog.underlying t = some (.map k e)) (hn : n < maxLen) {x : Int} (hx : (Lit.int q x).wf = true) (v : Value) :
    ∃ w', (Instr.mapUpdate t (.map (some b)) (.int q x) v).run Yba.prog w = .ok () w' ∧ MapV w' k q b (n + 1) (fun y => if y = x then some v else f y) ∧ w.grownBy w' (some b) := by
  obtain ⟨D, h1, h2⟩ := h
  obtain ⟨w', hr, h3, h4⟩ := h1.update (int_keyed hk) ht hn (keyOf_int_mk hk hx) (rfl : RV v = some (.held v, []))
  refine ⟨w', hr, ⟨D.put (.int q x) (.held v), h3, fun y hy => ?_⟩, h4⟩
  have hI := h1.isMap
  have hkl : ∀ a, WideAt.IsKeyLit (Lit.int q a) := fun a => trivial
  by_cases e : y = x
  · subst e
    simp only [if_true]
    refine ⟨fun u hu => ?_, fun hu => by cases hu⟩
    cases hu
    exact ⟨has_put_same hI (hkl y) _, fun z => atKey_put_same hI (hkl y) _ z⟩
  · simp only [if_neg e]
    have hne : Lit.int q y ≠ Lit.int q x := fun h => e (by cases h; rfl)
    refine ⟨fun u hu => ?_, fun hu => ?_⟩
    · obtain ⟨g1, g2⟩ := (h2 y hy).1 u hu
      exact ⟨by rw [has_put_other hne]; exact g1, fun z => by rw [atKey_put_other hne]; exact g2 z⟩
    · rw [has_put_other hne]; exact (h2 y hy).2 hu
end Go.Proofs.Ybulkxiu
