import Derived.Test.YbulkxiuAppOwn
import Derived.Shelf.SlSortCmp.Whole1
import Derived.Ground.SlsfProg
import Derived.Shelf.SlGeneric
namespace Go.Proofs
open Go.Shelf
shelf_lay_g SlLaysF.n6 Slsf 6 at Yba 22 as Yba.sortU
end Go.Proofs
namespace Go.Proofs.Ybulkxiu
open Go.RowKit Go.Sort Go.Shelf Go.Lib
set_option maxRecDepth 100000

/-- slices.SortFunc(nodes, reduced's closure), at a row that is not nil. -/
theorem sort_any (gB nb cap bx : Nat) (G : PG) (blk c : Nat) (d : Array Nat) (w : World) (hG : WF G) (hn : 0 < G.n) (hM : GMem w gB nb cap G) (hb : w.cell? ⟨bx, 0, none⟩ = some (.pointer (some ⟨gB, 0, none⟩)))
    (h1 : blk ≠ gB) (h2 : blk ≠ nb) (h3 : blk ≠ bx) (h4 : ∀ k, k < G.n → blk ≠ G.ev k) (hH : Holds (encU G) w blk 0 d) (hblk : blk < w.heap.size) (hsz : d.size < 4611686018427387904) :
    Calls Yba.prog 22 #[.slice (some ⟨blk, 0, none⟩) d.size c, .func (.func 23) #[] #[.pointer (some ⟨bx, 0, none⟩)]] w fun e w' =>
      e = .returned (.tuple #[]) ∧ ∃ d' n os, PermIn 0 d.size d d' ∧ SortedIn (ltOf (cfC G)) 0 d.size d' ∧ w' = sortWorld (encU G) w blk 0 n d' os := by
  have eg : ∀ args w, (callFunc 23 args).run Yba.prog w = .ok (.enter 23 args) w := enters_of Yba.func23 (by kernel_rfl) rfl
  have h := Any.slices_SortFunc Yba.sortU (encU G) (fun _ => rfl) (cfC G) (swoN G) 23 #[.pointer (some ⟨bx, 0, none⟩)] blk 0 c d w eg (cmpReadsN gB nb cap bx G blk 0 d.size w hG hn hM hb h1 h2 h3 h4).lays hH hblk hsz
  exact h
end Go.Proofs.Ybulkxiu
