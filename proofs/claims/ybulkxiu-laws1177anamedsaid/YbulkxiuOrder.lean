import Derived.Test.YbulkxiuCmp
import Derived.Sort.Statements
import Derived.Shelf.SlSortCmp.Kit1
namespace Go.Proofs.Ybulkxiu
open Go.RowKit Go.Sort Go.Shelf Go.Lib

def bN (b : Bool) : Nat := if b then 1 else 0
theorem cB_zero (a b : Bool) : cB a b = 0 ↔ bN a = bN b := by cases a <;> cases b <;> decide
theorem cB_neg (a b : Bool) : cB a b < 0 ↔ bN a < bN b := by cases a <;> cases b <;> decide
/-- A node's number, brought into the graph. -/
def cl (G : PG) (x : Nat) : Nat := if x < G.n then x else 0
theorem cl_in {G : PG} {x : Nat} (h : x < G.n) : cl G x = x := if_pos h
theorem cl_lt {G : PG} (h : 0 < G.n) (x : Nat) : cl G x < G.n := by unfold cl; split <;> omega
def cfC (G : PG) (x y : Nat) : Int := cfN G (cl G x) (cl G y)
theorem ltN_iff (G : PG) (x y : Nat) : ltOf (cfC G) x y = true ↔ bN (G.ty (cl G x)) < bN (G.ty (cl G y)) ∨ bN (G.ty (cl G x)) = bN (G.ty (cl G y)) ∧ (bN (G.ky (cl G x)) < bN (G.ky (cl G y)) ∨ bN (G.ky (cl G x)) = bN (G.ky (cl G y)) ∧ cl G y < cl G x) := by
  unfold ltOf cfC cfN
  rw [decide_eq_true_eq]
  generalize cl G x = a
  generalize cl G y = b
  by_cases h1 : cB (G.ty a) (G.ty b) = 0
  · rw [if_pos h1]
    have e1 := (cB_zero _ _).1 h1
    by_cases h2 : cB (G.ky a) (G.ky b) = 0
    · rw [if_pos h2]
      have e2 := (cB_zero _ _).1 h2
      unfold cI
      split
      · constructor
        · intro _; right; exact ⟨e1, Or.inr ⟨e2, by omega⟩⟩
        · intro _; omega
      · split <;> constructor <;> intro h <;> omega
    · rw [if_neg h2, cB_neg]
      have e2 : ¬ bN (G.ky a) = bN (G.ky b) := fun e => h2 ((cB_zero _ _).2 e)
      omega
  · rw [if_neg h1, cB_neg]
    have e1 : ¬ bN (G.ty a) = bN (G.ty b) := fun e => h1 ((cB_zero _ _).2 e)
    omega
theorem ltN_false (G : PG) (x y : Nat) : ltOf (cfC G) x y = false ↔ ¬ (bN (G.ty (cl G x)) < bN (G.ty (cl G y)) ∨ bN (G.ty (cl G x)) = bN (G.ty (cl G y)) ∧ (bN (G.ky (cl G x)) < bN (G.ky (cl G y)) ∨ bN (G.ky (cl G x)) = bN (G.ky (cl G y)) ∧ cl G y < cl G x)) := by
  rw [← ltN_iff]; cases ltOf (cfC G) x y <;> simp
theorem swoN (G : PG) : SWO (ltOf (cfC G)) := by
  refine ⟨fun x => ?_, fun x y z h1 h2 => ?_, fun x y z h1 h2 => ?_⟩
  · rw [ltN_false]; omega
  · rw [ltN_iff] at *; omega
  · rw [ltN_false] at *; omega

def encU (G : PG) (x : Nat) : Value := .int .u32 ((cl G x : Nat) + 1 : Int)
/-- The closure, as slices.SortFunc asks for it: in every world in which the row blk alone has turned. -/
theorem cmpReadsN (gB nb cap bx : Nat) (G : PG) (blk off size : Nat) (w : World) (hG : WF G) (hn : 0 < G.n) (hM : GMem w gB nb cap G) (hb : w.cell? ⟨bx, 0, none⟩ = some (.pointer (some ⟨gB, 0, none⟩)))
    (h1 : blk ≠ gB) (h2 : blk ≠ nb) (h3 : blk ≠ bx) (h4 : ∀ k, k < G.n → blk ≠ G.ev k) :
    CmpReads Yba.prog 23 #[.pointer (some ⟨bx, 0, none⟩)] (encU G) (cfC G) blk off size w := by
  intro m os dk _ x y
  have hc : ∀ a v, a.block ≠ blk → w.cell? a = some v → (sortWorld (encU G) w blk off m dk os).cell? a = some v := by
    intro a v ha hv
    have hlt : a.block < w.heap.size := World.block_lt_of_cell? w _ hv
    unfold sortWorld
    rw [cell?_grow _ _ _ (by rw [size_putRow]; exact hlt), cell?_putRow_other _ _ _ _ _ _ (.inl ha)]
    exact hv
  have hM' : GMem (sortWorld (encU G) w blk off m dk os) gB nb cap G :=
    ⟨hc _ _ (fun e => h1 e.symm) hM.g0, fun k hk => hc _ _ (fun e => h2 e.symm) (hM.ev k hk), fun k hk => hc _ _ (fun e => h2 e.symm) (hM.par k hk), fun k hk => hc _ _ (fun e => h2 e.symm) (hM.dep k hk), fun k hk => hc _ _ (fun e => h2 e.symm) (hM.jmp k hk), fun k hk => hc _ _ (fun e => h4 k hk e.symm) (hM.nd k hk), fun k hk => hc _ _ (fun e => h4 k hk e.symm) (hM.ty k hk), fun k hk => hc _ _ (fun e => h4 k hk e.symm) (hM.ky k hk)⟩
  exact closure_any gB nb cap bx G _ hG hM' (hc _ _ (fun e => h3 e.symm) hb) (cl G x) (cl G y) (cl_lt hn x) (cl_lt hn y)
end Go.Proofs.Ybulkxiu
