import Derived.Test.YbulkxiuAddR
namespace Go.Proofs.Ybulkxiu
open Go.RowKit Go.Sort Go.Shelf Go.Lib
set_option maxRecDepth 100000
/-- e covers c (numbers from 1): it is c, or descends from it in its pair's tree. -/
def CovN (G : PG) (e c : Nat) : Prop := e = c ∨ (G.ty (e - 1) = G.ty (c - 1) ∧ G.ky (e - 1) = G.ky (c - 1) ∧ ∃ t, 1 ≤ t ∧ t ≤ G.dep (e - 1) ∧ upN G t e = c)
/-- How many nodes stand from k up to its jump, k with them. -/
def pathN (G : PG) (k : Nat) : Nat := G.dep k - G.dep (G.jmp k - 1)
/-- What the law asks of a named row. -/
structure NK (G : PG) (own nm : Nat → List Nat) (k : Nat) : Prop where
  nd : (nm k).Nodup
  sub : ∀ y ∈ nm k, ∃ t, t < pathN G k ∧ y + 1 ∈ own (upN G t (k + 1) - 1)
  cov : ∀ t, t < pathN G k → ∀ c ∈ own (upN G t (k + 1) - 1), ∃ y ∈ nm k, CovN G (y + 1) c
def NKs (G : PG) (own nm : Nat → List Nat) : Prop := ∀ k, k < G.n → passG G k = true → NK G own nm k
end Go.Proofs.Ybulkxiu
