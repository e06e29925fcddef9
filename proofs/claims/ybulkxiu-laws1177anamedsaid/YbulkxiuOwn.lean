import Derived.Test.YbulkxiuGet
import Derived.Deep.AppendLies
namespace Go.Proofs.Ybulkxiu
open Go.RowKit
set_option maxRecDepth 100000

/-- A cite: step j's id, or an id that no step bears. -/
def citeS : Option Nat → ByteArray
  | some j => idS j
  | none => zzS
def citeC : Option Nat → Nat
  | some j => j % 26
  | none => 25
theorem asks_cite {i : Nat} {t : Option Nat} (h : ∀ j, t = some j → j < i) : Asks i (citeS t) (citeC t) t := by
  cases t with
  | none => exact ⟨rfl, rfl⟩
  | some j => exact ⟨h j rfl, rfl, rfl⟩
/-- The events' numbers. -/
def NumMem (w : World) (i : Nat) (evp : Nat → Option Nat) (nd : Nat → Nat) : Prop := ∀ j, j < i → ∀ e, evp j = some e → w.cell? ⟨e, 7, none⟩ = some (.int .u32 (nd j)) ∧ e < w.heap.size
/-- The row of an event's cites. -/
def CiteMem (w : World) (a : Option Addr) (cs : List (Option Nat)) : Prop := ∀ t, t < cs.length → ∃ b o, a = some ⟨b, o, none⟩ ∧ b < w.heap.size ∧ w.cell? ⟨b, o + t, none⟩ = some (.string (citeS (cs.getD t none)))
/-- The node that a cite names, 0 for none. -/
def nodeAt (evp : Nat → Option Nat) (nd : Nat → Nat) : Option Nat → Nat
  | some j => if (evp j).isSome then nd j else 0
  | none => 0
/-- What an event names, but its parent. -/
def ownL (evp : Nat → Option Nat) (nd : Nat → Nat) (par : Nat) (cs : List (Option Nat)) : List Nat :=
  (cs.map (nodeAt evp nd)).filter fun x => x ≠ 0 && x ≠ par
def U32 (l : List Nat) : List Value := l.map fun (x : Nat) => .int .u32 (x : Int)
theorem ownL_snoc (evp : Nat → Option Nat) (nd : Nat → Nat) (par : Nat) (cs : List (Option Nat)) (t : Nat) (ht : t < cs.length) :
    ownL evp nd par (cs.take (t + 1)) = ownL evp nd par (cs.take t) ++ (if nodeAt evp nd (cs.getD t none) ≠ 0 ∧ nodeAt evp nd (cs.getD t none) ≠ par then [nodeAt evp nd (cs.getD t none)] else []) := by
  unfold ownL
  rw [List.take_succ_eq_append_getElem ht, List.map_append, List.filter_append]
  congr 1
  have e : cs.getD t none = cs[t] := by simp [List.getD, ht]
  rw [e]
  simp only [List.map_cons, List.map_nil, List.filter_cons, List.filter_nil]
  by_cases h : nodeAt evp nd cs[t] ≠ 0 ∧ nodeAt evp nd cs[t] ≠ par
  · rw [if_pos h]; simp [h]
  · rw [if_neg h]
    simp
    omega
end Go.Proofs.Ybulkxiu
