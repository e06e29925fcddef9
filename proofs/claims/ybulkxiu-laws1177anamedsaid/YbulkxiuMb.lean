import Derived.Test.YbulkxiuEs
namespace Go.Proofs.Ybulkxiu
open Go.RowKit
set_option maxRecDepth 100000
/-- The model's block and its five rows, each of its own length. -/
structure MB (B0 : Nat) (w : World) (tg : Nat → Nat) (mB : Nat) (V : MVs) (nE nP nD nO nC : Nat) (fE fP fD fO fC : Nat → Value) : Prop where
  blk : ∃ a, w.heap[mB]? = some (.cells a 44 (0, 0)) ∧ a.size = 5 ∧ a[0]? = some V.eV ∧ a[1]? = some V.pV ∧ a[2]? = some V.dV ∧ a[3]? = some V.oV ∧ a[4]? = some V.cV
  tm : tg mB = 3
  bm : B0 ≤ mB
  evs : RowF B0 w tg 7 47 1 V.eV nE fE
  par : RowF B0 w tg 11 45 1 V.pV nP fP
  dep : RowF B0 w tg 15 45 1 V.dV nD fD
  ownr : RowF B0 w tg 19 41 1 V.oV nO fO
  cbr : RowF B0 w tg 23 41 1 V.cV nC fC
theorem MB.setE {B0 : Nat} {w w2 : World} {tg tg2 : Nat → Nat} {mB : Nat} {V : MVs} {nE nP nD nO nC : Nat} {fE fP fD fO fC f' : Nat → Value} {v' : Value} (h : MB B0 w tg mB V nE nP nD nO nC fE fP fD fO fC) (f : Fr (fun T => T = 7) w tg w2 tg2) (row : RowF B0 w2 tg2 7 47 1 v' (nE + 1) f') :
    MB B0 (w2.setCell ⟨mB, 0, none⟩ v') tg2 mB { V with eV := v' } (nE + 1) nP nD nO nC f' fP fD fO fC ∧ Fr (fun T => T % 4 = 3 ∧ T < 40) w tg (w2.setCell ⟨mB, 0, none⟩ v') tg2 := by
  obtain ⟨a, a1, a2, a3, a4, a5, a6, a7⟩ := h.blk
  have a1' := f.heap a1 (by rw [h.tm]; omega)
  have tm : tg2 mB = 3 := (f.tagOf a1).trans h.tm
  have f2 : Fr (fun T => T = 3) w2 tg2 (w2.setCell ⟨mB, 0, none⟩ v') tg2 := Fr.of_set _ _ _ _ tm
  have G : Fr (fun T => T = 7 ∨ T = 3) w tg (w2.setCell ⟨mB, 0, none⟩ v') tg2 := (f.mono fun _ q => Or.inl q).trans (f2.mono fun _ q => Or.inr q)
  refine ⟨⟨⟨a.setIfInBounds 0 v', heap_setCell_same w2 mB 0 a 44 _ a1', by simpa using a2, by simp [a2], by simpa [Array.getElem?_setIfInBounds] using a4, by simpa [Array.getElem?_setIfInBounds] using a5, by simpa [Array.getElem?_setIfInBounds] using a6, by simpa [Array.getElem?_setIfInBounds] using a7⟩, tm, h.bm, row.fr f2 (by omega), h.par.fr G (by omega), h.dep.fr G (by omega), h.ownr.fr G (by omega), h.cbr.fr G (by omega)⟩, G.mono fun _ q => by omega⟩
theorem MB.setP {B0 : Nat} {w w2 : World} {tg tg2 : Nat → Nat} {mB : Nat} {V : MVs} {nE nP nD nO nC : Nat} {fE fP fD fO fC f' : Nat → Value} {v' : Value} (h : MB B0 w tg mB V nE nP nD nO nC fE fP fD fO fC) (f : Fr (fun T => T = 11) w tg w2 tg2) (row : RowF B0 w2 tg2 11 45 1 v' (nP + 1) f') :
    MB B0 (w2.setCell ⟨mB, 1, none⟩ v') tg2 mB { V with pV := v' } nE (nP + 1) nD nO nC fE f' fD fO fC ∧ Fr (fun T => T % 4 = 3 ∧ T < 40) w tg (w2.setCell ⟨mB, 1, none⟩ v') tg2 := by
  obtain ⟨a, a1, a2, a3, a4, a5, a6, a7⟩ := h.blk
  have a1' := f.heap a1 (by rw [h.tm]; omega)
  have tm : tg2 mB = 3 := (f.tagOf a1).trans h.tm
  have f2 : Fr (fun T => T = 3) w2 tg2 (w2.setCell ⟨mB, 1, none⟩ v') tg2 := Fr.of_set _ _ _ _ tm
  have G : Fr (fun T => T = 11 ∨ T = 3) w tg (w2.setCell ⟨mB, 1, none⟩ v') tg2 := (f.mono fun _ q => Or.inl q).trans (f2.mono fun _ q => Or.inr q)
  refine ⟨⟨⟨a.setIfInBounds 1 v', heap_setCell_same w2 mB 1 a 44 _ a1', by simpa using a2, by simpa [Array.getElem?_setIfInBounds] using a3, by simp [a2], by simpa [Array.getElem?_setIfInBounds] using a5, by simpa [Array.getElem?_setIfInBounds] using a6, by simpa [Array.getElem?_setIfInBounds] using a7⟩, tm, h.bm, h.evs.fr G (by omega), row.fr f2 (by omega), h.dep.fr G (by omega), h.ownr.fr G (by omega), h.cbr.fr G (by omega)⟩, G.mono fun _ q => by omega⟩
theorem MB.setD {B0 : Nat} {w w2 : World} {tg tg2 : Nat → Nat} {mB : Nat} {V : MVs} {nE nP nD nO nC : Nat} {fE fP fD fO fC f' : Nat → Value} {v' : Value} (h : MB B0 w tg mB V nE nP nD nO nC fE fP fD fO fC) (f : Fr (fun T => T = 15) w tg w2 tg2) (row : RowF B0 w2 tg2 15 45 1 v' (nD + 1) f') :
    MB B0 (w2.setCell ⟨mB, 2, none⟩ v') tg2 mB { V with dV := v' } nE nP (nD + 1) nO nC fE fP f' fO fC ∧ Fr (fun T => T % 4 = 3 ∧ T < 40) w tg (w2.setCell ⟨mB, 2, none⟩ v') tg2 := by
  obtain ⟨a, a1, a2, a3, a4, a5, a6, a7⟩ := h.blk
  have a1' := f.heap a1 (by rw [h.tm]; omega)
  have tm : tg2 mB = 3 := (f.tagOf a1).trans h.tm
  have f2 : Fr (fun T => T = 3) w2 tg2 (w2.setCell ⟨mB, 2, none⟩ v') tg2 := Fr.of_set _ _ _ _ tm
  have G : Fr (fun T => T = 15 ∨ T = 3) w tg (w2.setCell ⟨mB, 2, none⟩ v') tg2 := (f.mono fun _ q => Or.inl q).trans (f2.mono fun _ q => Or.inr q)
  refine ⟨⟨⟨a.setIfInBounds 2 v', heap_setCell_same w2 mB 2 a 44 _ a1', by simpa using a2, by simpa [Array.getElem?_setIfInBounds] using a3, by simpa [Array.getElem?_setIfInBounds] using a4, by simp [a2], by simpa [Array.getElem?_setIfInBounds] using a6, by simpa [Array.getElem?_setIfInBounds] using a7⟩, tm, h.bm, h.evs.fr G (by omega), h.par.fr G (by omega), row.fr f2 (by omega), h.ownr.fr G (by omega), h.cbr.fr G (by omega)⟩, G.mono fun _ q => by omega⟩
theorem MB.setO {B0 : Nat} {w w2 : World} {tg tg2 : Nat → Nat} {mB : Nat} {V : MVs} {nE nP nD nO nC : Nat} {fE fP fD fO fC f' : Nat → Value} {v' : Value} (h : MB B0 w tg mB V nE nP nD nO nC fE fP fD fO fC) (f : Fr (fun T => T = 19) w tg w2 tg2) (row : RowF B0 w2 tg2 19 41 1 v' (nO + 1) f') :
    MB B0 (w2.setCell ⟨mB, 3, none⟩ v') tg2 mB { V with oV := v' } nE nP nD (nO + 1) nC fE fP fD f' fC ∧ Fr (fun T => T % 4 = 3 ∧ T < 40) w tg (w2.setCell ⟨mB, 3, none⟩ v') tg2 := by
  obtain ⟨a, a1, a2, a3, a4, a5, a6, a7⟩ := h.blk
  have a1' := f.heap a1 (by rw [h.tm]; omega)
  have tm : tg2 mB = 3 := (f.tagOf a1).trans h.tm
  have f2 : Fr (fun T => T = 3) w2 tg2 (w2.setCell ⟨mB, 3, none⟩ v') tg2 := Fr.of_set _ _ _ _ tm
  have G : Fr (fun T => T = 19 ∨ T = 3) w tg (w2.setCell ⟨mB, 3, none⟩ v') tg2 := (f.mono fun _ q => Or.inl q).trans (f2.mono fun _ q => Or.inr q)
  refine ⟨⟨⟨a.setIfInBounds 3 v', heap_setCell_same w2 mB 3 a 44 _ a1', by simpa using a2, by simpa [Array.getElem?_setIfInBounds] using a3, by simpa [Array.getElem?_setIfInBounds] using a4, by simpa [Array.getElem?_setIfInBounds] using a5, by simp [a2], by simpa [Array.getElem?_setIfInBounds] using a7⟩, tm, h.bm, h.evs.fr G (by omega), h.par.fr G (by omega), h.dep.fr G (by omega), row.fr f2 (by omega), h.cbr.fr G (by omega)⟩, G.mono fun _ q => by omega⟩
theorem MB.setC {B0 : Nat} {w w2 : World} {tg tg2 : Nat → Nat} {mB : Nat} {V : MVs} {nE nP nD nO nC : Nat} {fE fP fD fO fC f' : Nat → Value} {v' : Value} (h : MB B0 w tg mB V nE nP nD nO nC fE fP fD fO fC) (f : Fr (fun T => T = 23) w tg w2 tg2) (row : RowF B0 w2 tg2 23 41 1 v' (nC + 1) f') :
    MB B0 (w2.setCell ⟨mB, 4, none⟩ v') tg2 mB { V with cV := v' } nE nP nD nO (nC + 1) fE fP fD fO f' ∧ Fr (fun T => T % 4 = 3 ∧ T < 40) w tg (w2.setCell ⟨mB, 4, none⟩ v') tg2 := by
  obtain ⟨a, a1, a2, a3, a4, a5, a6, a7⟩ := h.blk
  have a1' := f.heap a1 (by rw [h.tm]; omega)
  have tm : tg2 mB = 3 := (f.tagOf a1).trans h.tm
  have f2 : Fr (fun T => T = 3) w2 tg2 (w2.setCell ⟨mB, 4, none⟩ v') tg2 := Fr.of_set _ _ _ _ tm
  have G : Fr (fun T => T = 23 ∨ T = 3) w tg (w2.setCell ⟨mB, 4, none⟩ v') tg2 := (f.mono fun _ q => Or.inl q).trans (f2.mono fun _ q => Or.inr q)
  refine ⟨⟨⟨a.setIfInBounds 4 v', heap_setCell_same w2 mB 4 a 44 _ a1', by simpa using a2, by simpa [Array.getElem?_setIfInBounds] using a3, by simpa [Array.getElem?_setIfInBounds] using a4, by simpa [Array.getElem?_setIfInBounds] using a5, by simpa [Array.getElem?_setIfInBounds] using a6, by simp [a2]⟩, tm, h.bm, h.evs.fr G (by omega), h.par.fr G (by omega), h.dep.fr G (by omega), h.ownr.fr G (by omega), row.fr f2 (by omega)⟩, G.mono fun _ q => by omega⟩
end Go.Proofs.Ybulkxiu
