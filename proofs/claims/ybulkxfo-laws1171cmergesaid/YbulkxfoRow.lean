import Derived.Test.YbulkxfoCmp
import Derived.Ground.SlsfProg
import Derived.Shelf.SlGeneric
namespace Go.Proofs
open Go.Shelf
shelf_lay_g SlLaysF0.n20 Slsf 20 at Yba 16 as Yba.ins
end Go.Proofs
namespace Go.Proofs.Ybulkxfo
open Go.Shelf Go.RowKit Go.Lib Go.Sort

theorem len_encL (x : Lot) : (encL x).length = 7 := rfl
theorem one_encL (x : Lot) : ∀ v ∈ encL x, v.oneCell' = true := by
  intro v hv
  simp only [encL, List.mem_cons, List.not_mem_nil, or_false] at hv
  rcases hv with rfl | rfl | rfl | rfl | rfl | rfl | rfl <;> rfl

theorem insArr (blk off cap n : Nat) (d0 : Array Lot) (w0 : World) (R : RowK encL 7 w0 blk off d0) (hn : n = d0.size) (hsz : n ≤ 1024) : InsArr Yba.prog 7 encL cfL 6 #[] blk off cap n w0 := by
  intro ai bi a b d W hai hbi hab hb hd S
  subst hai hbi
  have eg : ∀ args w, (callFunc 6 args).run Yba.prog w = .ok (.enter 6 args) w := enters_of Yba.func6 (by kernel_rfl) rfl
  have h := AnyQ.insertionSortCmpFunc Yba.ins 7 tf.aE tf.zE encL len_encL one_encL cfL 6 #[] blk off cap a b d W eg (cmpLaysL blk off d.size W) (S.holds R.hblk R.hH (by omega)) (S.lt R.hblk) hab (by omega) (by omega)
  change Calls Yba.prog 16 _ _ _ at h
  rw [hd] at h
  refine h.mono ?_
  rintro e w' ⟨rfl, m, os, rfl⟩
  obtain ⟨hp, hs⟩ := insertionSort_holds swoL d a b hab (by omega)
  exact ⟨rfl, _, hp.1.trans hd, hp.2.1, hs, S.on R.hblk m _ os hp.1⟩

/-- slices.SortStableFunc(h, compareLots). -/
theorem sort_any (blk off cap : Nat) (d : Array Lot) (w : World) (hH : HoldsK encL 7 w blk off d) (hblk : blk < w.heap.size) (hn : d.size ≤ 1024) :
    Calls Yba.prog 9 #[.slice (some ⟨blk, off, none⟩) d.size cap, .func (.func 6) #[] #[]] w fun e w' => e = .returned (.tuple #[]) ∧ ∃ d' : Array Lot, d'.size = d.size ∧ SortedIn (ltOf cfL) 0 d.size d' ∧ SWK encL 7 w blk off d' w' := by
  have R : RowK encL 7 w blk off d := ⟨len_encL, one_encL, hH, hblk⟩
  have eg : ∀ args w, (callFunc 6 args).run Yba.prog w = .ok (.enter 6 args) w := enters_of Yba.func6 (by kernel_rfl) rfl
  have hsym := symArr_of (sym_all tf Yba.func17 Yba.func18 Yba.func19 encL cfL swoL 6 #[] blk off cap d.size d w eg (cmpLaysL blk off d.size w) R rfl (by omega))
  exact sortStable_any tf Yba.func9 Yba.func13 blk off cap d.size 6 #[] w _ (stable_any tf Yba.func13 Yba.func16 Yba.func17 encL cfL 6 #[] blk off cap d.size d w w (insArr blk off cap d.size d w R rfl hn) hsym rfl (SWK.start hH) hn)
end Go.Proofs.Ybulkxfo
