import Derived.Test.YbulkxiuSort
import Derived.LaidEqlPtr
namespace Go.Proofs.Ybulkxiu
open Go.RowKit Go.Sort Go.Shelf Go.Lib
set_option maxRecDepth 100000

theorem size56 : (Yba.prog.info? 56).map (fun i => i.size) = some 13 := by kernel_rfl
/-- Two pointers to events. -/
theorem eqPtr_same (e : Nat) (w : World) : (binOp .eql 47 (.pointer (some ⟨e, 0, none⟩)) (.pointer (some ⟨e, 0, none⟩))).run Yba.prog w = .ok (.bool true) w := by
  have h := size56
  cases hi : Yba.prog.info? 56 with
  | none => rw [hi] at h; cases h
  | some i => exact run_eql_ptr_same w _ Yba.underlying47 hi
theorem eqPtr_other {e f : Nat} {w : World} {ca cb : Array Value} {ta tb : TypeId} (hne : e ≠ f) (ha : w.heap[e]? = some (.cells ca ta (0, 0))) (hb : w.heap[f]? = some (.cells cb tb (0, 0))) :
    (binOp .eql 47 (.pointer (some ⟨e, 0, none⟩)) (.pointer (some ⟨f, 0, none⟩))).run Yba.prog w = .ok (.bool false) w := by
  have h := size56
  cases hi : Yba.prog.info? 56 with
  | none => rw [hi] at h; cases h
  | some i =>
    rw [hi] at h
    have hsz : i.size = 13 := by simpa using h
    exact run_eql_ptr_other w Yba.underlying47 hi (by rw [hsz]; decide) (fun q => hne (by injection q)) ha hb

/-- h descends from a in their tree. -/
def descB (G : PG) (h a : Nat) : Bool := decide (G.dep a < G.dep h ∧ upN G (G.dep h - G.dep a) (h + 1) = a + 1)
def dropB (G : PG) (y x : Nat) : Bool := y == x || (G.ty y == G.ty x && G.ky y == G.ky x && descB G y x)
def redStep (G : PG) (K : List Nat) (x : Nat) : List Nat := match K.getLast? with
  | none => [x]
  | some y => if dropB G y x then K else K ++ [x]
/-- What reduced keeps of a sorted list. -/
def red (G : PG) (l : List Nat) : List Nat := l.foldl (redStep G) []
theorem red_snoc (G : PG) (l : List Nat) (x : Nat) : red G (l ++ [x]) = redStep G (red G l) x := by unfold red; rw [List.foldl_append]; rfl
theorem redStep_len (G : PG) (K : List Nat) (x : Nat) : (redStep G K x).length ≤ K.length + 1 := by
  unfold redStep; split
  · simp
  · split <;> simp
theorem redFold_len (G : PG) : ∀ (l K : List Nat), (l.foldl (redStep G) K).length ≤ K.length + l.length
  | [], K => by simp
  | x :: l, K => by
    have h1 := redFold_len G l (redStep G K x)
    have h2 := redStep_len G K x
    simp only [List.foldl_cons, List.length_cons]; omega
theorem red_len (G : PG) (l : List Nat) : (red G l).length ≤ l.length := by have := redFold_len G l []; simpa [red] using this
theorem redStep_mem {G : PG} {K : List Nat} {x y : Nat} (h : y ∈ redStep G K x) : y ∈ K ∨ y = x := by
  unfold redStep at h; split at h
  · simp at h; exact Or.inr h
  · split at h
    · exact Or.inl h
    · simpa using h
theorem redFold_mem (G : PG) : ∀ (l K : List Nat) (y : Nat), y ∈ l.foldl (redStep G) K → y ∈ K ∨ y ∈ l
  | [], K, y, h => Or.inl h
  | x :: l, K, y, h => by
    rcases redFold_mem G l (redStep G K x) y h with h | h
    · rcases redStep_mem h with h | h
      · exact Or.inl h
      · exact Or.inr (by simp [h])
    · exact Or.inr (by simp [h])
theorem red_mem {G : PG} {l : List Nat} {y : Nat} (h : y ∈ red G l) : y ∈ l := by
  rcases redFold_mem G l [] y h with h | h
  · cases h
  · exact h

/-- 0-based nodes as the program's numbers. -/
def U32s (l : List Nat) : List Value := U32 (l.map (· + 1))

theorem heap_sortWorld (enc : Nat → Value) (w : World) (blk off n : Nat) (d : Array Nat) (os : Array Obj) (cur : Array Value) (e : TypeId) (hb : w.heap[blk]? = some (.cells cur e (0, 0))) :
    (sortWorld enc w blk off n d os).heap[blk]? = some (.cells (putCells enc off d cur) e (0, 0)) := by
  have hlt : blk < w.heap.size := (Array.getElem?_eq_some_iff.1 hb).1
  unfold sortWorld grow
  show ((putRow enc (Sort.ahead w n) blk off d).heap ++ os)[blk]? = _
  rw [Array.getElem?_append_left (by simp [putRow, mapBlock]; exact hlt)]
  unfold putRow mapBlock
  show (w.heap.modify blk _)[blk]? = _
  rw [Array.getElem?_modify, if_pos rfl, hb]
  rfl
theorem heap_sortWorld_other (enc : Nat → Value) (w : World) (blk off n : Nat) (d : Array Nat) (os : Array Obj) (k : Nat) (hk : k < w.heap.size) (hne : k ≠ blk) :
    (sortWorld enc w blk off n d os).heap[k]? = w.heap[k]? := by
  unfold sortWorld grow
  show ((putRow enc (Sort.ahead w n) blk off d).heap ++ os)[k]? = _
  rw [Array.getElem?_append_left (by simp [putRow, mapBlock]; exact hk)]
  unfold putRow mapBlock
  show (w.heap.modify blk _)[k]? = _
  rw [Array.getElem?_modify, if_neg (fun e => hne e.symm)]
theorem grownBy_sortWorld (enc : Nat → Value) (w : World) (blk off n : Nat) (d : Array Nat) (os : Array Obj) : w.grownBy (sortWorld enc w blk off n d os) (some blk) :=
  ⟨rfl, rfl, rfl, by unfold sortWorld grow putRow mapBlock; show w.heap.size ≤ ((w.heap.modify blk _) ++ os).size; rw [Array.size_append, Array.size_modify]; omega,
   fun k hk hne => heap_sortWorld_other enc w blk off n d os k hk (fun e => hne (by rw [e]))⟩

/-- slices.SortFunc at a row of one's own: the row, sorted. -/
theorem sort_row (gB nb cap bx : Nat) (G : PG) (B blk c : Nat) (x : List Nat) (w : World) (hG : WF G) (hn : 0 < G.n) (hM : GMem w gB nb cap G) (hb : w.cell? ⟨bx, 0, none⟩ = some (.pointer (some ⟨gB, 0, none⟩)))
    (h1 : blk ≠ gB) (h2 : blk ≠ nb) (h3 : blk ≠ bx) (h4 : ∀ k, k < G.n → blk ≠ G.ev k) (hx : ∀ y ∈ x, y < G.n) (hR : w.ownsRow B 45 1 (.slice (some ⟨blk, 0, none⟩) x.length c) x.length (U32s x)) (hsz : x.length < 4611686018427387904) :
    Calls Yba.prog 22 #[.slice (some ⟨blk, 0, none⟩) x.length c, .func (.func 23) #[] #[.pointer (some ⟨bx, 0, none⟩)]] w fun e w' =>
      e = .returned (.tuple #[]) ∧ ∃ L, L.Perm x ∧ (∀ i j, i < j → j < L.length → ltOf (cfC G) (L.getD j 0) (L.getD i 0) = false) ∧ w'.ownsRow B 45 1 (.slice (some ⟨blk, 0, none⟩) x.length c) x.length (U32s L) ∧ w.grownBy w' (some blk) := by
  have hlen := hR.1
  rcases hR.2 with ⟨h', _⟩ | ⟨g', cap', cur, h', hB, hg, hnc, hcm, hcs, htake⟩
  · simp at h'
  simp only [Value.slice.injEq, Option.some.injEq, Addr.mk.injEq, and_true, true_and] at h'
  obtain ⟨rfl, rfl⟩ := h'
  have hlt : blk < w.heap.size := (Array.getElem?_eq_some_iff.1 hg).1
  have hH : Holds (encU G) w blk 0 x.toArray := by
    intro j hj
    have hj' : j < x.length := by simpa using hj
    refine ⟨?_, by rw [Nat.zero_add]; exact hR.frozenAt j⟩
    rw [Nat.zero_add, hR.cellAt j (by omega)]
    unfold U32s U32 encU
    rw [cl_in (hx _ (by rw [getElem!_pos _ j hj]; simp))]
    rw [getElem!_pos _ j hj]
    simp [hj']
  refine (sort_any gB nb cap bx G blk c x.toArray w hG hn hM hb h1 h2 h3 h4 hH hlt (by simpa using hsz)).mono ?_
  rintro e w' ⟨rfl, d', n, os, ⟨p1, _, p3⟩, p4, rfl⟩
  have hp : d'.toList.Perm x := by
    have e1 : d'.extract 0 x.toArray.size = d' := by rw [← p1]; simp
    rw [e1] at p3
    simpa using p3
  have hsz' : d'.size = x.length := by simpa using p1
  refine ⟨rfl, d'.toList, hp, ?_, ?_, grownBy_sortWorld _ _ _ _ _ _ _⟩
  · intro i j hij hj
    have hj' : j < d'.size := by simpa using hj
    have := p4 i j (Nat.zero_le _) hij (by simpa [hsz'] using hj')
    rw [getElem!_pos _ j hj', getElem!_pos _ i (by omega)] at this
    simpa [List.getD, hj', show i < d'.size by omega] using this
  · refine ⟨?_, .inr ⟨blk, c, _, rfl, hB, heap_sortWorld _ w blk 0 n d' os cur 45 hg, hnc, hcm, ?_, ?_⟩⟩
    · simp [U32s, U32, hsz']
    · simp [putCells]; omega
    · apply List.ext_getElem?
      intro k
      rw [List.getElem?_take]
      by_cases hk : k < x.length * 1
      · have hkx : k < x.length := by omega
        have hkd : k < d'.size := by omega
        have hkc : k < cur.size := by omega
        rw [if_pos hk]
        have hmem : d'[k] < G.n := hx _ (hp.subset (by simp))
        simp [putCells, U32s, U32, hkd, hkc, getElem!_pos, encU, cl_in hmem]
      · rw [if_neg hk]
        rw [List.getElem?_eq_none]
        simp [U32s, U32]; omega
end Go.Proofs.Ybulkxiu
