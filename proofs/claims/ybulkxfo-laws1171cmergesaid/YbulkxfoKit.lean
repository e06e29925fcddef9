import Derived.Test.YbulkxfoProg
import Derived.Shelf.SlSortCmp.KitK
import Derived.WalkKit
import Derived.WalkSpells
import Derived.WalkLawsBesides
/-! The walks of the library's stable sort are typed over ANY program P that bears this dump's bodies and types (so that no walk lays the loaded program open), the element's number of cells a letter k. -/
namespace Go.Proofs.Ybulkxfo
open Go.Shelf Go.RowKit Go.Lib Go.Sort

/-- What the walks are told of P's types. -/
structure TF (P : Program) (k : Nat) : Prop where
  mixed : P.follows .mixedOrders = true
  t0 : P.underlying 0 = some (.tuple #[])
  a0 : ∀ w, (isAgg 0).run P w = .ok false w
  z0 : ∀ w, (Go.sizeOf 0).run P w = .ok 1 w
  v0 : ∀ w, (zeroValue 0).run P w = .ok (.tuple #[]) w
  t3 : P.underlying 3 = some (.int .i64)
  a3 : ∀ w, (isAgg 3).run P w = .ok false w
  z3 : ∀ w, (Go.sizeOf 3).run P w = .ok 1 w
  v3 : ∀ w, (zeroValue 3).run P w = .ok (.int .i64 0) w
  t4 : P.underlying 4 = some .bool
  a4 : ∀ w, (isAgg 4).run P w = .ok false w
  z4 : ∀ w, (Go.sizeOf 4).run P w = .ok 1 w
  v4 : ∀ w, (zeroValue 4).run P w = .ok (.bool false) w
  t23 : P.underlying 23 = some (.slice 29)
  a23 : ∀ w, (isAgg 23).run P w = .ok false w
  z23 : ∀ w, (Go.sizeOf 23).run P w = .ok 1 w
  v23 : ∀ w, (zeroValue 23).run P w = .ok (.slice none 0 0) w
  t25 : P.underlying 25 = some (.func #[29, 29] #[3] false)
  a25 : ∀ w, (isAgg 25).run P w = .ok false w
  z25 : ∀ w, (Go.sizeOf 25).run P w = .ok 1 w
  v25 : ∀ w, (zeroValue 25).run P w = .ok .nilFunc w
  t45 : P.underlying 45 = some (.int .u64)
  a45 : ∀ w, (isAgg 45).run P w = .ok false w
  z45 : ∀ w, (Go.sizeOf 45).run P w = .ok 1 w
  v45 : ∀ w, (zeroValue 45).run P w = .ok (.int .u64 0) w
  aE : ∀ w, (isAgg 29).run P w = .ok true w
  zE : ∀ w, (Go.sizeOf 29).run P w = .ok k w

theorem tf : TF Yba.prog 7 := by
  refine ⟨by kernel_rfl, Yba.underlying0, ?_, ?_, ?_, Yba.underlying3, ?_, ?_, ?_, Yba.underlying4, ?_, ?_, ?_, Yba.underlying23, ?_, ?_, ?_, Yba.underlying25, ?_, ?_, ?_, Yba.underlying45, ?_, ?_, ?_, ?_, ?_⟩
  all_goals (intro w; kernel_rfl)

/-- The first n of swapRange's exchanges. -/
def swr {α : Type} [Inhabited α] (a b : Nat) : Nat → Array α → Array α
  | 0, d => d
  | n + 1, d => swp (swr a b n d) (a + n) (b + n)
theorem size_swr {α : Type} [Inhabited α] (a b n : Nat) (d : Array α) : (swr a b n d).size = d.size := by
  induction n with
  | zero => rfl
  | succ n ih => rw [swr, size_swp, ih]
end Go.Proofs.Ybulkxfo
