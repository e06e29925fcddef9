import Derived.Test.YbulkxiuRt
import Derived.Lib.AppendStr
namespace Go.Proofs.Ybulkxiu
open Go.RowKit Go.Lib
set_option maxRecDepth 100000
section
variable {P : Program} {w : World} {B0 : Nat} {tg : Nat → Nat} {T e : Nat} {v : Value} {n : Nat} {F : Nat → Value}
/-- append(v, s...) of a string's bytes: where the new slice lies. -/
theorem run_str_at (t u ty : TypeId) (i : TypeInfo) (ht : P.underlying t = some (.slice e)) (hu : P.underlying u = some .string) (hi : P.info? e = some i) (hz : i.zero = some (.int .u8 0)) (hsize : i.size = 1) (hby : i.bytes = 1)
    (xs : List Value) (hown : w.ownsRow B0 e 1 v n xs) (s : ByteArray) (hs0 : 0 < s.size) (hbytes : n + s.size ≤ 1000000) (hbase : B0 ≤ w.heap.size) :
    ∃ g cap w', (Builtin.append_ #[t, u] ty #[v, .string s]).run P w = .ok (.slice (some ⟨g, 0, none⟩) (n + s.size) cap) w' ∧ w'.ownsRow B0 e 1 (.slice (some ⟨g, 0, none⟩) (n + s.size) cap) (n + s.size) (xs ++ strCells s) ∧ w.grownBy w' v.ownBlock ∧ (v.ownBlock = some g ∨ w.heap.size ≤ g) := by
  obtain ⟨v', w', hr, h2, h3, h4⟩ := run_append_own_string (P := P) w B0 t u ty e i ht hu hi hz hsize hby v n xs hown s (by unfold maxLen; omega) (by omega) hbase
  obtain ⟨g, cap, rfl, _, _⟩ := h2.form (by omega)
  refine ⟨g, cap, w', hr, h2, h3, ?_⟩
  have hxl : xs.length = n := by have := hown.1; omega
  rcases hown.2 with ⟨rfl, rfl⟩ | ⟨g0, cap0, cur, rfl, hbg, hg, hnc, hcm, hcs, htake⟩
  · right
    obtain ⟨v2, w2, q1, q2, _⟩ := run_append_own_string (P := P) w w.heap.size t u ty e i ht hu hi hz hsize hby (.slice none 0 0) 0 [] (World.ownsRow_nil _ _ _ _) s (by unfold maxLen; omega) (by omega) (Nat.le_refl _)
    rw [hr] at q1
    injection q1 with q1 _
    rw [← q1] at q2
    exact (q2.lt g rfl).1
  · by_cases hroom : n + s.size ≤ cap0
    · left
      have q1 := run_append_room_string (P := P) w t u ty e i ht hu hi hsize g0 n cap0 cur hg s hroom (by omega)
      rw [hr] at q1
      injection q1 with q1 _
      simp only [Value.slice.injEq, Option.some.injEq, Addr.mk.injEq, and_true, true_and] at q1
      rw [q1.1]; rfl
    · right
      have holds : ∀ j u, xs[j]? = some u → w.cell? ((⟨g0, 0, none⟩ : Addr).add j) = some u := hown.cells (g := g0) rfl
      have q1 := run_append_grow_string (P := P) w t u ty e i (.int .u8 0) ht hu hi hz ⟨g0, 0, none⟩ n cap0 xs (by rw [hsize]; omega) holds s (by omega) (by omega) (by rw [hby]; exact growslice_fits (by omega) (by omega))
      rw [hr] at q1
      injection q1 with q1 _
      simp only [Value.slice.injEq, Option.some.injEq, Addr.mk.injEq, and_true, true_and] at q1
      rw [q1.1]; exact Nat.le_refl _
theorem wpList_rowFs {ops : Array Oper} {rest : List Oper} {o : Oper} {a : Act} {Q : Exit → Act → World → Prop} (hgd : o.guard = none) (sl x : Operand) (t u : TypeId)
    (ho : o.op = .call { callee := .builtin .append, args := #[sl, x], argTypes := #[t, u] })
    (i : TypeInfo) (ht : P.underlying t = some (.slice e)) (hu : P.underlying u = some .string) (hi : P.info? e = some i) (hz : i.zero = some (.int .u8 0)) (hsize : i.size = 1) (hby : i.bytes = 1)
    (hs : a.eval sl = v) (row : RowF B0 w tg T e 1 v n F) (s : ByteArray) (hx : a.eval x = .string s) (hs0 : 0 < s.size) (hbytes : n + s.size ≤ 1000000) (hbase : B0 ≤ w.heap.size)
    (F' : Nat → Value) (hF : ∀ j, j < n * 1 → F' j = F j) (hF2 : ∀ j, j < s.size → (strCells s)[j]? = some (F' (n + j)))
    (h : ∀ g cap w', RowF B0 w' (nT tg w.heap.size T) T e 1 (.slice (some ⟨g, 0, none⟩) (n + s.size) cap) (n + s.size) F' → Fr (fun x => x = T) w tg w' (nT tg w.heap.size T) → wpList P ops Q rest (a.put o.dst (.slice (some ⟨g, 0, none⟩) (n + s.size) cap)) w') : wpList P ops Q (o :: rest) a w := by
  obtain ⟨xs, r1, r2, r3⟩ := row
  obtain ⟨g, cap, w', hr, h2, h3, h4⟩ := run_str_at t u o.type i ht hu hi hz hsize hby xs r1 s hs0 hbytes hbase
  refine wpList_plain hgd fun K hK => ?_
  unfold Oper.wp execOp
  simp only [ho, resolve, invoke, builtin, Sem.run_bind, Sem.run_pure, Result.andThen_ok, List.map_toArray, List.map_cons, List.map_nil, hs, hx, hr]
  refine hK _ _ (h g cap w' ⟨xs ++ strCells s, h2, fun j hj => ?_, fun b hb => ?_⟩ (Fr.of_grown tg T h3 r3))
  · by_cases q : j < n * 1
    · rw [List.getElem?_append_left (by rw [r1.1]; exact q), r2 j q, hF j q]
    · rw [List.getElem?_append_right (by rw [r1.1]; omega), r1.1, hF2 _ (by omega), show n + (j - n * 1) = j by omega]
  · have : g = b := by simpa [Value.ownBlock] using hb
    subst this
    rcases h4 with h4 | h4
    · rw [nT_lt _ _ _ _ (r1.lt g h4).2]; exact r3 g h4
    · exact nT_ge _ _ _ _ h4
end
/-- The bytes of a step's id. -/
theorem idS_cells (i : Nat) (hi : i < 512) : (idS i).size = 3 ∧ ∀ j, j < 3 → (strCells (idS i))[j]? = some (idC (3 * i + j)) := by
  refine ⟨rfl, fun j hj => ?_⟩
  have h3 : j = 0 ∨ j = 1 ∨ j = 2 := by omega
  have e1 : (3 * i + j) / 3 = i := by omega
  have e2 : (3 * i + j) % 3 = j := by omega
  unfold idC
  rw [e1, e2]
  rcases h3 with rfl | rfl | rfl
  all_goals
    unfold strCells
    simp only [idS, strOfNums_data, idN, List.map_cons, List.map_nil]
    simp
    try omega
/-- What slots holds of a new record's hash. -/
theorem slot_look (i : Nat) : (slotF i (97 + ((i % 26 : Nat) : Int))).getD (.int .u32 0) = .int .u32 (sameN i : Int) := by
  unfold slotF sameN lastN
  by_cases h : i < 26
  · rw [if_neg (by omega), if_pos h]; rfl
  · rw [if_pos (by omega), if_neg h]
    simp only [Option.getD_some]
    congr 1
    omega
theorem slot_upd (i : Nat) : (fun y => if y = 97 + ((i % 26 : Nat) : Int) then some (Value.int .u32 ((i : Int) + 1)) else slotF i y) = slotF (i + 1) := by
  funext y
  unfold slotF lastN
  by_cases e : y = 97 + ((i % 26 : Nat) : Int)
  · rw [if_pos e, if_pos (by omega)]
    congr 2
    omega
  · rw [if_neg e]
    by_cases c : 97 ≤ y ∧ y < 123 ∧ y - 97 < i
    · rw [if_pos c, if_pos (by omega)]
      congr 2
      omega
    · rw [if_neg c, if_neg (by omega)]
end Go.Proofs.Ybulkxiu
