import Derived.Test.YbulkxhsTake
import Derived.Deep.RegionHeld3
import Derived.Deep.QuietTactic
import Derived.BigQuiet
import Derived.LaidEqlPtr
import Derived.Conc.LoneSelectN
namespace Go.Proofs.Ybulkxhs
open Go.RowKit Go.Lib Go.Sort Go.Conc
def mkRow (n : Nat) : Array Value := madeCells (Value.pointer none).cells (n * 1)
theorem size_mkRow (n : Nat) : (mkRow n).size = n := by simp [mkRow, size_madeCells]
theorem run_mk (n : Nat) (hn : n ≤ 1024) (w : World) : (Instr.makeSlice 23 (.int .i64 n) (.int .i64 n)).run Yba.prog w = .ok (.slice (some ⟨w.heap.size, 0, none⟩) n n) (w.alloc (.cells (mkRow n) 24)) := by
  obtain ⟨i0, hi, hz0, hz1, hz2⟩ := info_parts Yba.infoP
  have h := run_make (P := Yba.prog) w 23 24 i0 (.pointer none) Yba.underlying23 hi hz0 .i64 .i64 n n (by omega) (by omega) (by rw [hz2]; omega) (by omega)
  rw [hz1] at h
  simpa [mkRow] using h
theorem bytes71 : ∃ i, Yba.prog.info? 71 = some i ∧ i.bytes = 16 := by
  have h : (Yba.prog.info? 71).map (·.bytes) = some 16 := by kernel_rfl
  obtain ⟨i, hi, hb⟩ := Option.map_eq_some_iff.1 h
  exact ⟨i, hi, hb⟩
theorem mk1 (w : World) : (Instr.makeChan 25 (.int .i64 1)).run Yba.prog w = .ok (.chan (some w.heap.size)) (w.alloc (.chan 1 #[] false 0 0 false)) := by
  obtain ⟨i, hi, hb⟩ := bytes71
  simpa using run_makeChan (P := Yba.prog) (w := w) Yba.underlying25 hi .i64 1 (by omega) (by rw [hb]; omega)
structure Wts (n k V : Nat) (zs : List Int) (w : World) : Prop where
  size : w.heap.size = V + 1 + 2 * k
  row : ∃ cur, w.heap[V]? = some (.cells cur 24 (0, 0)) ∧ cur.size = n ∧ ∀ i, i < k → cur[i]? = some (.pointer (some ⟨V + 2 + 2 * i, 0, none⟩))
  wait : ∀ i, i < k → w.heap[V + 1 + 2 * i]? = some (.chan 1 #[] false 0 0 false) ∧ w.heap[V + 2 + 2 * i]? = some (.cells #[.int .i64 (zs.getD i 0), .chan (some (V + 1 + 2 * i))] 27 (0, 0))
theorem wts_start (n : Nat) (zs : List Int) (w : World) : Wts n 0 w.heap.size zs (w.alloc (.cells (mkRow n) 24)) :=
  ⟨by simp, ⟨mkRow n, heap_alloc_new _ _, size_mkRow n, fun i hi => absurd hi (by omega)⟩, fun i hi => absurd hi (by omega)⟩
theorem wts_step {n k V : Nat} {zs : List Int} {w : World} (h : Wts n k V zs w) (hk : k < n) :
    Wts n (k + 1) V zs (((w.setCell ⟨V, k, none⟩ (.pointer (some ⟨w.heap.size + 1, 0, none⟩))).alloc (.chan 1 #[] false 0 0 false)).alloc (.cells #[.int .i64 (zs[k]?.getD 0), .chan (some w.heap.size)] 27)).drew := by
  obtain ⟨hs, ⟨cur, hc, hn, hr⟩, hw⟩ := h
  have old : ∀ j, j < w.heap.size → j ≠ V → (((w.setCell ⟨V, k, none⟩ (.pointer (some ⟨w.heap.size + 1, 0, none⟩))).alloc (.chan 1 #[] false 0 0 false)).alloc (.cells #[.int .i64 (zs[k]?.getD 0), .chan (some w.heap.size)] 27)).drew.heap[j]? = w.heap[j]? := by
    intro j hj hne
    show (((w.setCell ⟨V, k, none⟩ (.pointer (some ⟨w.heap.size + 1, 0, none⟩))).alloc (.chan 1 #[] false 0 0 false)).alloc (.cells #[.int .i64 (zs[k]?.getD 0), .chan (some w.heap.size)] 27)).heap[j]? = _
    rw [Below.heap_alloc _ _ _ (by simp; omega), Below.heap_alloc _ _ _ (by simp; omega), Below.heap_setCell _ _ _ _ hne]
  refine ⟨?_, ⟨cur.setIfInBounds k (.pointer (some ⟨w.heap.size + 1, 0, none⟩)), ?_, by simpa using hn, ?_⟩, ?_⟩
  · show (((w.setCell ⟨V, k, none⟩ (.pointer (some ⟨w.heap.size + 1, 0, none⟩))).alloc (.chan 1 #[] false 0 0 false)).alloc (.cells #[.int .i64 (zs[k]?.getD 0), .chan (some w.heap.size)] 27)).heap.size = _
    simp; omega
  · show (((w.setCell ⟨V, k, none⟩ (.pointer (some ⟨w.heap.size + 1, 0, none⟩))).alloc (.chan 1 #[] false 0 0 false)).alloc (.cells #[.int .i64 (zs[k]?.getD 0), .chan (some w.heap.size)] 27)).heap[V]? = _
    rw [Below.heap_alloc _ _ _ (by simp; omega), Below.heap_alloc _ _ _ (by simp; omega)]
    exact heap_setCell_same w V k cur 24 _ hc
  · intro i hi
    rcases Nat.lt_succ_iff_lt_or_eq.1 hi with hlt | rfl
    · rw [Array.getElem?_setIfInBounds_ne (by omega)]; exact hr i hlt
    · rw [Array.getElem?_setIfInBounds_self_of_lt (by omega)]
      congr 4
      omega
  · intro i hi
    rcases Nat.lt_succ_iff_lt_or_eq.1 hi with hlt | rfl
    · rw [old _ (by omega) (by omega), old _ (by omega) (by omega)]
      exact hw i hlt
    · refine ⟨?_, ?_⟩
      · show (((w.setCell ⟨V, i, none⟩ (.pointer (some ⟨w.heap.size + 1, 0, none⟩))).alloc (.chan 1 #[] false 0 0 false)).alloc (.cells #[.int .i64 (zs[i]?.getD 0), .chan (some w.heap.size)] 27)).heap[V + 1 + 2 * i]? = _
        rw [Below.heap_alloc _ _ _ (by simp; omega), ← hs]
        have := heap_alloc_new (w.setCell ⟨V, i, none⟩ (.pointer (some ⟨w.heap.size + 1, 0, none⟩))) (.chan 1 #[] false 0 0 false)
        simpa using this
      · show (((w.setCell ⟨V, i, none⟩ (.pointer (some ⟨w.heap.size + 1, 0, none⟩))).alloc (.chan 1 #[] false 0 0 false)).alloc (.cells #[.int .i64 (zs[i]?.getD 0), .chan (some w.heap.size)] 27)).heap[V + 2 + 2 * i]? = _
        have := heap_alloc_new ((w.setCell ⟨V, i, none⟩ (.pointer (some ⟨w.heap.size + 1, 0, none⟩))).alloc (.chan 1 #[] false 0 0 false)) (.cells #[.int .i64 (zs[i]?.getD 0), .chan (some w.heap.size)] 27)
        rw [show ((w.setCell ⟨V, i, none⟩ (.pointer (some ⟨w.heap.size + 1, 0, none⟩))).alloc (.chan 1 #[] false 0 0 false)).heap.size = V + 2 + 2 * i by simp; omega] at this
        rw [this, hs]
        simp
/-- The pointers to the first k waiters. -/
def ptrs (V k : Nat) : List (Option Addr) := (List.range k).map fun i => some ⟨V + 2 + 2 * i, 0, none⟩
theorem ptrs_len (V k : Nat) : (ptrs V k).length = k := by simp [ptrs]
theorem ptrs_at (V k i : Nat) (h : i < k) : (ptrs V k)[i]? = some (some ⟨V + 2 + 2 * i, 0, none⟩) := by simp [ptrs, h]
theorem ptrs_arr (V k i : Nat) (h : i < k) : (ptrs V k).toArray[i]! = some ⟨V + 2 + 2 * i, 0, none⟩ := by
  rw [getElem!_pos _ i (by simpa [ptrs] using h)]
  simp [ptrs]
theorem news_ptrs {n k V : Nat} {zs : List Int} {w w' : World} (h : Wts n k V zs w) (hV : w'.heap[V]? = w.heap[V]?) : ∀ j u, ((ptrs V k).map Value.pointer)[j]? = some u → w'.cell? ((⟨V, 0, none⟩ : Addr).add j) = some u := by
  intro j u hu
  obtain ⟨cur, hc, hn, hr⟩ := h.row
  have hadd : (⟨V, 0, none⟩ : Addr).add j = ⟨V, j, none⟩ := by unfold Addr.add; split <;> simp_all
  rw [hadd, cell_of_row w' V j cur 24 (0, 0) (hV.trans hc)]
  by_cases hj : j < k
  · rw [List.getElem?_map, ptrs_at V k j hj] at hu
    rw [hr j hj]; simpa using hu
  · rw [List.getElem?_eq_none (by simp [ptrs]; omega)] at hu; cases hu
theorem holds_of_owns {w : World} {base V k g c : Nat} (h : w.ownsRow base 24 1 (.slice (some ⟨g, 0, none⟩) (0 + k) c) (0 + k) ([] ++ (ptrs V k).map Value.pointer)) : Holds Value.pointer w g 0 (ptrs V k).toArray ∧ k ≤ c ∧ c ≤ maxLen := by
  rcases h.2 with ⟨h0, _⟩ | ⟨g', cap, cur, hv, _, hg, hnc, hcm, hcs, ht⟩
  · cases h0
  · simp at hv
    obtain ⟨rfl, rfl⟩ := hv
    refine ⟨fun j hj => ⟨?_, by simp [World.frozen?, hg]⟩, by omega, hcm⟩
    have hj' : j < k := by simpa [ptrs] using hj
    rw [cell_of_row w g (0 + j) cur 24 (0, 0) hg, ptrs_arr V k j hj']
    have : (cur.toList.take (0 + k) )[j]? = some (.pointer (some ⟨V + 2 + 2 * j, 0, none⟩)) := by
      rw [show 0 + k = (0 + k) * 1 by omega, ht]
      simp [ptrs_at V k j hj']
    rw [List.getElem?_take, if_pos (by omega)] at this
    simpa using this
theorem ptrs_one (V k : Nat) : ∀ u ∈ (ptrs V k).map Value.pointer, u.oneCell' = true := by
  intro u hu
  simp only [List.mem_map] at hu
  obtain ⟨x, _, rfl⟩ := hu
  rfl
theorem neq_same24 (a : Addr) (w : World) : (binOp .neq 24 (.pointer (some a)) (.pointer (some a))).run Yba.prog w = .ok (.bool false) w := by
  have hs : (Yba.prog.info? 27).isSome = true := by kernel_rfl
  obtain ⟨j, hte⟩ := Option.isSome_iff_exists.1 hs
  have h : ∀ d : Nat, (Op.equalIn (d + 1) 24 (.pointer (some a)) (.pointer (some a))).run Yba.prog w = .ok true w := fun d => by
    simp [Op.equalIn, run_underlying Yba.underlying24, sizeOf, typeInfo, hte, run_sameAddr_same]
  simp only [binOp]
  simp [Op.equal, Op.maxDepth, h 9999]
theorem keepBack {p : Prop} (h : p) : Hid p := h
theorem pool_info : ((Yba.prog.info? 66).bind (·.zero)).map (fun z => (z, z.cells)) = ((Yba.prog.info? 66).bind (·.zero)).map (fun z => (Value.agg z.cells, z.cells)) := by kernel_rfl
theorem pool_cells : ((Yba.prog.info? 66).bind (·.zero)).map (fun z => (z.cells[12]?, z.cells[221]?)) = some (some (.int .i64 0), some (.slice none 0 0)) := by kernel_rfl
theorem pool_zero : ∃ pz : Array Value, (∀ w, (zeroValue 66).run Yba.prog w = .ok (.agg pz) w) ∧ pz[12]? = some (.int .i64 0) ∧ pz[221]? = some (.slice none 0 0) := by
  have h1 := pool_info
  have h2 := pool_cells
  obtain ⟨z, hz, hz2⟩ := Option.map_eq_some_iff.1 h2
  rw [hz] at h1
  simp only [Option.map_some, Option.some.injEq, Prod.mk.injEq, and_true] at h1
  obtain ⟨i, hi, hiz⟩ := Option.bind_eq_some_iff.1 hz
  refine ⟨z.cells, fun w => ?_, ?_, ?_⟩
  · rw [← h1]
    simp [zeroValue, typeInfo, hi, hiz]
  · simpa using congrArg Prod.fst hz2
  · simpa using congrArg Prod.snd hz2
set_option maxHeartbeats 1600000 in
set_option maxRecDepth 100000 in
theorem walk_core (b off n cap : Nat) (zs : List Int) (x : Int) (w : World) (hb : b < w.heap.size) (hn : 1 ≤ n) (hle : n ≤ 1024) (hc : ∀ j, j < n → w.cell? ⟨b, off + j, none⟩ = some (.int .i64 (zs.getD j 0))) :
    Calls Yba.prog 3 #[.slice (some ⟨b, off, none⟩) n cap, .int .i64 x] w fun e w' => e = .returned (.bool true) ∧ Below w.heap.size w w' := by
  have hmk := run_mk n hle
  have hch := mk1
  have e1 : ¬ (1024 : Int) < (n : Int) := by omega
  have e2 : ((n : Int) == 0) = false := by simp; omega
  refine calls_of_wpN Yba.func3 rfl ?_
  simp only [Yba.ntmps3, List.size_toArray, List.length_cons, List.length_nil, Nat.reduceAdd, Nat.reduceSub, Array.replicate_succ, Array.replicate_zero, List.push_toArray, List.append_toArray, List.nil_append, List.cons_append]
  refine wpN_seq_k fun K hK => ?_
  go_wp2
  refine wpN_seq_k fun K hK => ?_
  go_wp2
  refine wpN_seq_k fun K hK => ?_
  go_wp2
  refine wpN_seq_k fun K hK => ?_
  go_wp2
  refine wpN_seq_k fun K hK => ?_
  go_wp2
  go_loopw [7] (fun i wr => ∃ k : Nat, k ≤ n ∧ i = .int .i64 k ∧ Wts n k w.heap.size zs wr ∧ Below w.heap.size w wr) (fun i _ => n - (RowKit.intOf i).toNat)
  case atStart => exact ⟨0, Nat.zero_le _, rfl, wts_start n zs w, (Below.refl _ _).alloc (Nat.le_refl _) _⟩
  case round =>
    obtain ⟨k, hk, rfl, hW, hnx⟩ := hrel
    by_cases hlt : k < n
    · have q := (hnx.cell (p := ⟨b, off + k, none⟩) hb).trans (hc k hlt)
      obtain ⟨cur, hcur, hsz, hrow⟩ := hW.row
      have q1 : wr.cell? ⟨w.heap.size, k, none⟩ = some (cur[k]'(by omega)) := by rw [cell_of_row wr _ k cur 24 (0, 0) hcur]; simp [hsz, hlt]
      have q2 : wr.frozen? ⟨w.heap.size, k, none⟩ = false := by simp [World.frozen?, hcur]
      have hlt0 : w.heap.size < wr.heap.size := (Array.getElem?_eq_some_iff.1 hcur).1
      have f1 : ∀ o1, (wr.alloc o1).frozen? ⟨w.heap.size, k, none⟩ = false := fun o1 => (World.frozen?_of_block (Below.heap_alloc wr o1 _ hlt0)).trans q2
      have f2 : ∀ o1 o2, ((wr.alloc o1).alloc o2).frozen? ⟨w.heap.size, k, none⟩ = false := fun o1 o2 => (World.frozen?_of_block (Below.heap_alloc (wr.alloc o1) o2 _ (by simp; omega))).trans (f1 o1)
      have g3 : ∀ o1 o2 u, (((wr.setCell ⟨w.heap.size, k, none⟩ u).alloc o1).alloc o2).cell? ⟨b, off + k, none⟩ = some (.int .i64 (zs.getD k 0)) := fun o1 o2 u => by
        rw [World.cell?_of_block (Below.heap_alloc ((wr.setCell ⟨w.heap.size, k, none⟩ u).alloc o1) o2 b (by simp; omega)), World.cell?_of_block (Below.heap_alloc (wr.setCell ⟨w.heap.size, k, none⟩ u) o1 b (by simp; omega)), World.cell?_of_block (Below.heap_setCell wr ⟨w.heap.size, k, none⟩ u b (by simp; omega))]
        exact q
      have hk0 : (0 : Int) ≤ (k : Int) := by omega
      have hk1 : (k : Int) < (n : Int) := by omega
      go_wp2
      go_region_held3 (fun w' => w'.cell? ⟨b, off + k, none⟩ = some (.int .i64 (zs.getD k 0))) (go_keep) (fail)
      all_goals go_wp2
      have hnx' := (((hnx.setCell (p := ⟨w.heap.size, k, none⟩) (Nat.le_refl _) (.pointer (some ⟨wr.heap.size + 1, 0, none⟩))).alloc (by simp; omega) (.chan 1 #[] false 0 0 false)).alloc (by simp; omega) (.cells #[.int .i64 (zs[k]?.getD 0), .chan (some wr.heap.size)] 27)).drew
      exact ⟨⟨k + 1, by omega, by go_num, wts_step hW hlt, hnx'⟩, by simp [RowKit.intOf]; omega⟩
    · obtain rfl : k = n := by omega
      clear hmk hch e1 e2 hlt
      go_wp2
      obtain ⟨pz, hpz, z12, z221⟩ := pool_zero
      have hws := hW.size
      obtain ⟨cur, hcur, hcn, hcr⟩ := hW.row
      refine wpN_seq_k fun K hK => ?_
      go_wp2
      obtain ⟨i0, hi, hz0, hz1, hz2⟩ := info_parts Yba.infoP
      have HS : Hid (wr.heap.size = w.heap.size + 1 + 2 * k) := hws
      have hB2 : (wr.alloc (.cells pz 66)).heap[w.heap.size + 1 + 2 * k]? = some (.cells pz 66 (0, 0)) := by rw [← hws]; exact heap_alloc_new _ _
      have hsz2 : (wr.alloc (.cells pz 66)).heap.size = w.heap.size + 2 + 2 * k := by simp; omega
      have hold2 : ∀ j, j < w.heap.size + 1 + 2 * k → (wr.alloc (.cells pz 66)).heap[j]? = wr.heap[j]? := fun j hj => Below.heap_alloc _ _ _ (by omega)
      have hnx2 : Below w.heap.size w (wr.alloc (.cells pz 66)) := hnx.alloc (by omega) _
      generalize wr.alloc (.cells pz 66) = w2 at *
      have b221 : w2.cell? ⟨w.heap.size + 1 + 2 * k, 221, none⟩ = some (.slice none 0 0) := by rw [cell_of_row w2 _ 221 pz 66 (0, 0) hB2]; exact z221
      have bf : ∀ o, w2.frozen? ⟨w.heap.size + 1 + 2 * k, o, none⟩ = false := fun o => by simp [World.frozen?, hB2]
      have hnews := news_ptrs hW (hold2 _ (by omega))
      clear hws hcur hcr hpz hnx
      refine wpN_seq_k fun K hK => ?_
      go_wp2_with (at_builtin; refine wpList_append_lies _ rfl (.const (.slice none 0 0)) (.tmp 43) 23 rfl w.heap.size 24 i0 (.pointer none) 1 8 Yba.underlying23 hi hz0 hz1 hz2 rfl (by decide) (.slice none 0 0) 0 [] rfl (World.ownsRow_nil _ _ _ _) ⟨w.heap.size, 0, none⟩ k k ((ptrs w.heap.size k).map Value.pointer) rfl (by simp [ptrs]) hnews (ptrs_one _ _) (by omega) (by unfold maxLen; omega) (by omega) (by omega) _ rfl ?_; intro g c w3 hown hgrow hat hlt3; have d221 := (hgrow.cell_far ⟨w.heap.size + 1 + 2 * k, 221, none⟩ (by simp; omega) (by simp [Value.ownBlock])).trans b221; have df := (hgrow.frozen_far ⟨w.heap.size + 1 + 2 * k, 221, none⟩ (by simp; omega) (by simp [Value.ownBlock])).trans (bf 221))
      have hg : g = w.heap.size + 2 + 2 * k := by
        rcases hat with h | h
        · simp [Value.ownBlock] at h
        · rw [h]; exact hsz2
      obtain ⟨hH3, hkc, hcm⟩ := holds_of_owns hown
      have hold3 : ∀ j, j < w.heap.size + 2 + 2 * k → w3.heap[j]? = w2.heap[j]? := fun j hj => hgrow.block j (by omega) (by simp [Value.ownBlock])
      have hnx3 : Below w.heap.size w w3 := hnx2.grown hgrow (by omega) (fun j hj => by cases hj)
      have hsz3 : w.heap.size + 2 + 2 * k < w3.heap.size := by omega
      subst hg
      clear hat hown hgrow hlt3 hnews b221 bf
      go_wp2
      have hB3 := (hold3 (w.heap.size + 1 + 2 * k) (by omega)).trans hB2
      have hB4 := heap_setCell_same w3 (w.heap.size + 1 + 2 * k) 221 pz 66 (.slice (some ⟨w.heap.size + 2 + 2 * k, 0, none⟩) k c) hB3
      have o4 := only_setCell w3 ⟨w.heap.size + 1 + 2 * k, 221, none⟩ (.slice (some ⟨w.heap.size + 2 + 2 * k, 0, none⟩) k c)
      have hnx4 := hnx3.setCell (p := ⟨w.heap.size + 1 + 2 * k, 221, none⟩) (by simp; omega) (.slice (some ⟨w.heap.size + 2 + 2 * k, 0, none⟩) k c)
      generalize w3.setCell ⟨w.heap.size + 1 + 2 * k, 221, none⟩ (.slice (some ⟨w.heap.size + 2 + 2 * k, 0, none⟩) k c) = w4 at *
      have hold4 : ∀ j, j < w.heap.size + 1 + 2 * k → w4.heap[j]? = wr.heap[j]? := fun j hj => (o4.block j (by simp; omega)).trans ((hold3 j (by omega)).trans (hold2 j hj))
      have hH4 : Holds Value.pointer w4 (w.heap.size + 2 + 2 * k) 0 (ptrs w.heap.size k).toArray := fun j hj => ⟨(o4.cell (p := ⟨w.heap.size + 2 + 2 * k, 0 + j, none⟩) (by simp)).trans (hH3 j hj).1, (o4.frozen (p := ⟨w.heap.size + 2 + 2 * k, 0 + j, none⟩) (by simp)).trans (hH3 j hj).2⟩
      have p12 : w4.cell? ⟨w.heap.size + 1 + 2 * k, 12, none⟩ = some (.int .i64 0) := by
        rw [cell_of_row w4 _ 12 _ 66 (0, 0) hB4, Array.getElem?_setIfInBounds_ne (by omega)]; exact z12
      have pf : ∀ o, w4.frozen? ⟨w.heap.size + 1 + 2 * k, o, none⟩ = false := fun o => by simp [World.frozen?, hB4]
      have p221 : w4.cell? ⟨w.heap.size + 1 + 2 * k, 221, none⟩ = some (.slice (some ⟨w.heap.size + 2 + 2 * k, 0, none⟩) k c) := by
        rw [cell_of_row w4 _ 221 _ 66 (0, 0) hB4, Array.getElem?_setIfInBounds_self_of_lt (Array.getElem?_eq_some_iff.1 z221).1]
      clear hold3 hold2 hnx3 hH3 hB3 hB4 o4 d221 df z12 z221 hB2 hsz2 hnx2 hsz3
      refine wpN_seq_k fun K hK => ?_
      go_wp2_with fail
      refine (store_any _ 12 0 x w4 p12 (pf 12)).mono ?_
      rintro e w5 ⟨rfl, rfl⟩
      have o5 := only_setCell w4 ⟨w.heap.size + 1 + 2 * k, 12, none⟩ (.int .i64 x)
      have hnx5 := hnx4.setCell (p := ⟨w.heap.size + 1 + 2 * k, 12, none⟩) (by simp; omega) (.int .i64 x)
      have r12 : (w4.setCell ⟨w.heap.size + 1 + 2 * k, 12, none⟩ (.int .i64 x)).cell? ⟨w.heap.size + 1 + 2 * k, 12, none⟩ = some (.int .i64 x) := World.cell?_setCell_same _ _ _ p12
      have r221 : (w4.setCell ⟨w.heap.size + 1 + 2 * k, 12, none⟩ (.int .i64 x)).cell? ⟨w.heap.size + 1 + 2 * k, 221, none⟩ = some (.slice (some ⟨w.heap.size + 2 + 2 * k, 0, none⟩) k c) := by
        rw [World.cell?_setCell_other _ _ _ _ (by simp)]; exact p221
      have rf : ∀ o, (w4.setCell ⟨w.heap.size + 1 + 2 * k, 12, none⟩ (.int .i64 x)).frozen? ⟨w.heap.size + 1 + 2 * k, o, none⟩ = false := fun o => by simp [pf]
      generalize w4.setCell ⟨w.heap.size + 1 + 2 * k, 12, none⟩ (.int .i64 x) = w5 at *
      have hold5 : ∀ j, j < w.heap.size + 1 + 2 * k → w5.heap[j]? = wr.heap[j]? := fun j hj => (o5.block j (by simp; omega)).trans (hold4 j hj)
      have hH5 : Holds Value.pointer w5 (w.heap.size + 2 + 2 * k) 0 (ptrs w.heap.size k).toArray := fun j hj => ⟨(o5.cell (p := ⟨w.heap.size + 2 + 2 * k, 0 + j, none⟩) (by simp)).trans (hH4 j hj).1, (o5.frozen (p := ⟨w.heap.size + 2 + 2 * k, 0 + j, none⟩) (by simp)).trans (hH4 j hj).2⟩
      clear hold4 hnx4 hH4 o5 p12 p221 pf
      go_wp2
      have hw0 := hW.wait 0 (by omega)
      have t0 : w5.cell? ⟨w.heap.size + 2, 0, none⟩ = some (.int .i64 (zs.getD 0 0)) := by
        rw [cell_of_row w5 _ 0 _ 27 (0, 0) ((hold5 _ (by omega)).trans hw0.2)]; rfl
      have t1 : w5.cell? ⟨w.heap.size + 2, 1, none⟩ = some (.chan (some (w.heap.size + 1))) := by
        rw [cell_of_row w5 _ 1 _ 27 (0, 0) ((hold5 _ (by omega)).trans hw0.2)]; rfl
      have t2 := (hold5 (w.heap.size + 1) (by omega)).trans hw0.1
      have hsd : (ptrs w.heap.size k).toArray.size = k := by simp [ptrs]
      have hsl : w5.cell? ⟨w.heap.size + 1 + 2 * k, 221, none⟩ = some (.slice (some ⟨w.heap.size + 2 + 2 * k, 0, none⟩) (ptrs w.heap.size k).toArray.size c) := by rw [hsd]; exact r221
      have HT := keepBack (take_any (w.heap.size + 1 + 2 * k) (w.heap.size + 2 + 2 * k) c (w.heap.size + 2) (w.heap.size + 1) 0 0 x (zs.getD 0 0) false (ptrs w.heap.size k).toArray w5 r12 (rf 12) hsl (rf 221) hH5 (by omega) (by unfold maxLen at hcm; omega) (by omega) (ptrs_arr _ _ 0 (by omega)) t0 t1 t2 (by omega) (by omega) (by omega) (by omega) (by omega))
      clear t0 t1 t2 hsl r12 rf r221 hH5 hw0
      refine wpN_seq_k fun K hK => ?_
      go_wp2_with fail
      refine (HT.out).mono ?_
      clear HT
      rintro e w6 ⟨rfl, k12, k221, kV, kc, ko⟩
      rw [hsd] at k221
      have hnx6 : Below w.heap.size w w6 := hnx5.trans ⟨ko.os, ko.tape, ko.output, by rw [ko.size]; exact Nat.le_refl _, fun j hj => ko.block j (by simp; omega)⟩
      have fV : ∀ i, i < k → w6.cell? ⟨w.heap.size, i, none⟩ = some (.pointer (some ⟨w.heap.size + 2 + 2 * i, 0, none⟩)) := fun i hi => by
        obtain ⟨cur, h1, _, h3⟩ := hW.row
        rw [cell_of_row w6 _ i cur 24 (0, 0) ((ko.block _ (by simp; omega)).trans ((hold5 _ (by omega)).trans h1))]
        exact h3 i hi
      have fT : ∀ i, i < k → w6.cell? ⟨w.heap.size + 2 + 2 * i, 0, none⟩ = some (.int .i64 (zs.getD i 0)) := fun i hi => by
        rw [cell_of_row w6 _ 0 _ 27 (0, 0) ((ko.block _ (by simp; omega)).trans ((hold5 _ (by omega)).trans (hW.wait i hi).2))]; rfl
      have fC : ∀ i, i < k → w6.cell? ⟨w.heap.size + 2 + 2 * i, 1, none⟩ = some (.chan (some (w.heap.size + 1 + 2 * i))) := fun i hi => by
        rw [cell_of_row w6 _ 1 _ 27 (0, 0) ((ko.block _ (by simp; omega)).trans ((hold5 _ (by omega)).trans (hW.wait i hi).2))]; rfl
      have fH : ∀ i, 0 < i → i < k → w6.heap[w.heap.size + 1 + 2 * i]? = some (.chan 1 #[] false 0 0 false) := fun i h0 hi =>
        (ko.block _ (by simp; omega)).trans ((hold5 _ (by omega)).trans (hW.wait i hi).1)
      have fA : ∀ i, i < k → w6.cell? ⟨b, off + i, none⟩ = some (.int .i64 (zs.getD i 0)) := fun i hi => (hnx6.cell (p := ⟨b, off + i, none⟩) hb).trans (hc i hi)
      have fG : ∀ i, i + 1 < k → w6.cell? ⟨w.heap.size + 2 + 2 * k, i, none⟩ = some (.pointer (some ⟨w.heap.size + 2 + 2 * (i + 1), 0, none⟩)) := fun i hi => by
        rw [kV i (by rw [hsd]; exact hi), ptrs_arr _ _ (i + 1) hi]
      have hk1 : ((k - 1 : Nat) : Int) = (k : Int) - 1 := by omega
      have a0 := fA 0 (by omega)
      simp only [Nat.add_zero] at a0
      have HC : Hid (w6.heap[w.heap.size + 1]? = some (.chan 1 #[.nilIface] false (0 + 1) 0 false)) := kc
      clear kc ko kV hold5 hnx5 hW hc hsd
      go_wp2
      refine wpN_seq_k fun K hK => ?_
      go_wp2
      refine wpN_seq_k fun K hK => ?_
      go_wp2_with fail
      refine (load_any _ 12 _ w6 k12).mono ?_
      rintro e w7 ⟨rfl, rfl⟩
      go_wp2
      refine wpN_seq_k fun K hK => ?_
      go_wp2
      refine wpN_seq_k fun K hK => ?_
      go_wp2
      go_loopw [10] (fun i wx => ∃ j q : Nat, j + 1 ≤ k ∧ i = .int .i64 j ∧ wx = w7.drewN q) (fun i _ => k - (RowKit.intOf i).toNat)
      case atStart => exact ⟨0, 0, by omega, rfl, rfl⟩
      case round =>
        obtain ⟨j, q, hj, rfl, rfl⟩ := hrel
        by_cases hj1 : j + 1 < k
        · have g1 := fG j hj1
          have g2 := fV (j + 1) hj1
          have g3 := fT (j + 1) hj1
          have g4 := fA (j + 1) hj1
          have hjj : (j : Int) < (k : Int) - 1 := by omega
          have hne := neq_same24
          go_wp2
          go_quiet (fail)
          clear g1 g2 g3 g4 hne hjj
          go_wp2
          go_roundw
          case rel => exact ⟨j + 1, q + nq, by omega, by go_num, by simp [World.drewN]⟩
          case measure => simp [RowKit.intOf]; omega
        · have hjj : ¬ (j : Int) < (k : Int) - 1 := by omega
          go_wp2
          refine wpN_seq_k fun K hK => ?_
          have h0 := fV 0 (by omega)
          have h1 := fC 0 (by omega)
          simp only [Nat.mul_zero, Nat.add_zero] at h0 h1
          have h2 : (Builtin.len_ #[25] 3 #[.chan (some (w.heap.size + 1))]).run Yba.prog (w7.drewN q) = .ok (.int .i64 1) (w7.drewN q) := run_len_chan (P := Yba.prog) (w := w7.drewN q) 25 3 Yba.underlying25 HC.out
          go_wp2
          clear h2
          refine wpN_seq (wpN_seq (wpN_region ?_))
          refine wpR_value rfl rfl (v := .slice (some ⟨w.heap.size, 0, none⟩) k k) (w₁ := w7.drewN q) (by simp [go_sem]) ?_
          refine wpR_value rfl rfl (v := .pointer (some ⟨w.heap.size, 0, none⟩)) (w₁ := w7.drewN q) (by simp [go_sem]; omega) ?_
          refine wpR_value rfl rfl (v := .pointer (some ⟨w.heap.size + 2, 0, none⟩)) (w₁ := w7.drewN q) (by simp [go_sem, h0]) ?_
          refine wpR_value rfl rfl (v := .pointer (some ⟨w.heap.size + 2, 0, none⟩)) (w₁ := w7.drewN q) (by simp [go_sem]) ?_
          refine wpR_value rfl rfl (v := .pointer (some ⟨w.heap.size + 2, 1, none⟩)) (w₁ := w7.drewN q) (by simp [go_sem]) ?_
          refine wpR_value rfl rfl (v := .chan (some (w.heap.size + 1))) (w₁ := w7.drewN q) (by simp [go_sem, h1]) ?_
          refine wpR_recv rfl rfl (c := w.heap.size + 1) (cap := 1) (buf := #[.nilIface]) (z := .nilIface) (w₁ := w7.drewN q) (by simp [go_sem, rcase]) HC.out (by simp) ?_
          refine wpR_value rfl rfl (v := .nilIface) (w₁ := (w7.drewN q).setChan (w.heap.size + 1) 1 ((#[.nilIface] : Array Value).extract 1 (#[.nilIface] : Array Value).size) false (0 + 1) (0 + 1) false) (by simp [go_sem]) ?_
          refine wpR_end ?_
          have o8 : Only [w.heap.size + 1] w7 ((w7.drewN q).setChan (w.heap.size + 1) 1 ((#[.nilIface] : Array Value).extract 1 (#[.nilIface] : Array Value).size) false (0 + 1) (0 + 1) false) :=
            ⟨rfl, rfl, rfl, by simp [World.setChan], fun i hi => by simp only [World.setChan]; rw [Array.getElem?_setIfInBounds_ne (by simpa using Ne.symm (by simpa using hi))]; rfl⟩
          generalize (w7.drewN q).setChan (w.heap.size + 1) 1 ((#[.nilIface] : Array Value).extract 1 (#[.nilIface] : Array Value).size) false (0 + 1) (0 + 1) false = w8 at *
          have hnx8 : Below w.heap.size w w8 := hnx6.trans ⟨o8.os, o8.tape, o8.output, by rw [o8.size]; exact Nat.le_refl _, fun i hi => o8.block i (by simp; omega)⟩
          have v8 : ∀ i, i < k → w8.cell? ⟨w.heap.size, i, none⟩ = some (.pointer (some ⟨w.heap.size + 2 + 2 * i, 0, none⟩)) := fun i hi => (o8.cell (p := ⟨w.heap.size, i, none⟩) (by simp)).trans (fV i hi)
          have c8 : ∀ i, i < k → w8.cell? ⟨w.heap.size + 2 + 2 * i, 1, none⟩ = some (.chan (some (w.heap.size + 1 + 2 * i))) := fun i hi => (o8.cell (p := ⟨w.heap.size + 2 + 2 * i, 1, none⟩) (by simp; omega)).trans (fC i hi)
          have h8 : ∀ i, 0 < i → i < k → (Builtin.len_ #[25] 3 #[.chan (some (w.heap.size + 1 + 2 * i))]).run Yba.prog w8 = .ok (.int .i64 0) w8 := fun i h0 hi => run_len_chan (P := Yba.prog) (w := w8) 25 3 Yba.underlying25 ((o8.block _ (by simp; omega)).trans (fH i h0 hi))
          clear o8 hnx6 fV fT fC fH fA fG a0 k12 k221 h0 h1 HC HS
          refine wpN_of_wp ?_
          simp only [Act.put]
          go_wp2
          refine wpN_of_wp ?_
          go_wp2
          go_loop [12] (fun i => ∃ m : Nat, 0 < m ∧ m ≤ k ∧ i = .int .i64 m) (fun i => k - (RowKit.intOf i).toNat)
          case atStart => exact ⟨1, by omega, by omega, rfl⟩
          case round =>
            obtain ⟨m, hm0, hm, rfl⟩ := hrel
            by_cases hmk : m < k
            · have g1 := v8 m hmk
              have g2 := c8 m hmk
              have g3 := h8 m hm0 hmk
              go_wp2
              go_round
              case rel => exact ⟨m + 1, by omega, by omega, by go_num⟩
              case measure => simp [RowKit.intOf]; omega
            · go_wp2
              go_ret
              exact ⟨rfl, hnx8⟩
end Go.Proofs.Ybulkxhs
