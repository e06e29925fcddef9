import Derived.Test.YbulkxiuLeaf
import Derived.Deep.AppendLies
namespace Go.Proofs.Ybulkxiu
open Go.RowKit
set_option maxRecDepth 100000

/-- From w to w', the blocks' tags (a ghost) from tg to tg': only blocks whose tag is in S may have turned; elder blocks keep their tags. -/
structure Fr (S : Nat → Prop) (w : World) (tg : Nat → Nat) (w' : World) (tg' : Nat → Nat) : Prop where
  os : w'.os = w.os
  tape : w'.tape = w.tape
  output : w'.output = w.output
  size : w.heap.size ≤ w'.heap.size
  tag : ∀ b, b < w.heap.size → tg' b = tg b
  block : ∀ b, b < w.heap.size → ¬ S (tg b) → w'.heap[b]? = w.heap[b]?
def nT (tg : Nat → Nat) (H T : Nat) : Nat → Nat := fun b => if b < H then tg b else T
theorem nT_lt (tg : Nat → Nat) (H T b : Nat) (h : b < H) : nT tg H T b = tg b := if_pos h
theorem nT_ge (tg : Nat → Nat) (H T b : Nat) (h : H ≤ b) : nT tg H T b = T := if_neg (by omega)
theorem Fr.refl (S : Nat → Prop) (w : World) (tg : Nat → Nat) : Fr S w tg w tg := ⟨rfl, rfl, rfl, Nat.le_refl _, fun _ _ => rfl, fun _ _ _ => rfl⟩
theorem Fr.trans {S : Nat → Prop} {w w' w'' : World} {tg tg' tg'' : Nat → Nat} (h : Fr S w tg w' tg') (k : Fr S w' tg' w'' tg'') : Fr S w tg w'' tg'' :=
  ⟨k.os.trans h.os, k.tape.trans h.tape, k.output.trans h.output, Nat.le_trans h.size k.size, fun b hb => (k.tag b (Nat.lt_of_lt_of_le hb h.size)).trans (h.tag b hb),
   fun b hb hS => (k.block b (Nat.lt_of_lt_of_le hb h.size) (by rw [h.tag b hb]; exact hS)).trans (h.block b hb hS)⟩
theorem Fr.mono {S S' : Nat → Prop} {w w' : World} {tg tg' : Nat → Nat} (h : Fr S w tg w' tg') (hs : ∀ T, S T → S' T) : Fr S' w tg w' tg' :=
  ⟨h.os, h.tape, h.output, h.size, h.tag, fun b hb hn => h.block b hb fun q => hn (hs _ q)⟩
theorem Fr.drewN {S : Nat → Prop} {w w' : World} {tg tg' : Nat → Nat} (h : Fr S w tg w' tg') (q : Nat) : Fr S w tg (w'.drewN q) tg' := ⟨h.os, h.tape, h.output, h.size, h.tag, h.block⟩
theorem Fr.of_alloc (S : Nat → Prop) (w : World) (tg : Nat → Nat) (o : Obj) (T : Nat) : Fr S w tg (w.alloc o) (nT tg w.heap.size T) :=
  ⟨rfl, rfl, rfl, by simp, fun _ hb => nT_lt _ _ _ _ hb, fun _ hb _ => (World.grownBy_alloc w o none).block _ hb (by simp)⟩
theorem Fr.of_below (S : Nat → Prop) {w w' : World} (tg : Nat → Nat) (T : Nat) (h : RowKit.Below w.heap.size w w') : Fr S w tg w' (nT tg w.heap.size T) :=
  ⟨h.os, h.tape, h.output, h.size, fun _ hb => nT_lt _ _ _ _ hb, fun b hb _ => h.block b hb⟩
theorem Fr.of_grown {S : Nat → Prop} {w w' : World} (tg : Nat → Nat) (T : Nat) {row : Option Nat} (h : w.grownBy w' row) (hr : ∀ b, row = some b → S (tg b)) : Fr S w tg w' (nT tg w.heap.size T) :=
  ⟨h.os, h.tape, h.output, h.size, fun _ hb => nT_lt _ _ _ _ hb, fun b hb hS => h.block b hb fun e => hS (hr b e.symm)⟩
theorem Fr.of_set {S : Nat → Prop} (w : World) (tg : Nat → Nat) (a : Addr) (v : Value) (h : S (tg a.block)) : Fr S w tg (w.setCell a v) tg :=
  ⟨rfl, rfl, rfl, by simp, fun _ _ => rfl, fun b _ hS => heap_setCell_other w a b v fun e => hS (by rw [e]; exact h)⟩
theorem Fr.cell {S : Nat → Prop} {w w' : World} {tg tg' : Nat → Nat} (h : Fr S w tg w' tg') {a : Addr} {v : Value} (hc : w.cell? a = some v) (hS : ¬ S (tg a.block)) : w'.cell? a = some v :=
  (World.cell?_of_block (h.block _ (World.block_lt_of_cell? w _ hc) hS)).trans hc
theorem Fr.heap {S : Nat → Prop} {w w' : World} {tg tg' : Nat → Nat} (h : Fr S w tg w' tg') {b : Nat} {o : Obj} (hc : w.heap[b]? = some o) (hS : ¬ S (tg b)) : w'.heap[b]? = some o :=
  (h.block _ (Array.getElem?_eq_some_iff.1 hc).1 hS).trans hc
theorem Fr.tagOf {S : Nat → Prop} {w w' : World} {tg tg' : Nat → Nat} (h : Fr S w tg w' tg') {b : Nat} {o : Obj} (hc : w.heap[b]? = some o) : tg' b = tg b := h.tag _ (Array.getElem?_eq_some_iff.1 hc).1

/-- v owns a row of n elements of k cells, of tag T; F: its cells. -/
def RowF (B0 : Nat) (w : World) (tg : Nat → Nat) (T e k : Nat) (v : Value) (n : Nat) (F : Nat → Value) : Prop :=
  ∃ xs, w.ownsRow B0 e k v n xs ∧ (∀ j, j < n * k → xs[j]? = some (F j)) ∧ ∀ b, v.ownBlock = some b → tg b = T
section
variable {B0 : Nat} {w : World} {tg : Nat → Nat} {T e k : Nat} {v : Value} {n : Nat} {F : Nat → Value}
theorem RowF.nil (B0 : Nat) (w : World) (tg : Nat → Nat) (T e k : Nat) (F : Nat → Value) : RowF B0 w tg T e k (.slice none 0 0) 0 F :=
  ⟨[], World.ownsRow_nil w B0 e k, fun j hj => by omega, fun b hb => by simp [Value.ownBlock] at hb⟩
theorem RowF.fr {S : Nat → Prop} {w' : World} {tg' : Nat → Nat} (h : RowF B0 w tg T e k v n F) (f : Fr S w tg w' tg') (hT : ¬ S T) : RowF B0 w' tg' T e k v n F := by
  obtain ⟨xs, h1, h2, h3⟩ := h
  refine ⟨xs, ⟨h1.1, ?_⟩, h2, fun b hb => (f.tag b (h1.lt b hb).2).trans (h3 b hb)⟩
  rcases h1.2 with hn | ⟨g, cap, cur, rfl, hb, hg, rest⟩
  · exact .inl hn
  · exact .inr ⟨g, cap, cur, rfl, hb, f.heap hg (by rw [h3 g rfl]; exact hT), rest⟩
theorem RowF.congr {F' : Nat → Value} (h : RowF B0 w tg T e k v n F) (hF : ∀ j, j < n * k → F j = F' j) : RowF B0 w tg T e k v n F' := by
  obtain ⟨xs, h1, h2, h3⟩ := h
  exact ⟨xs, h1, fun j hj => by rw [h2 j hj, hF j hj], h3⟩
theorem RowF.drewN (h : RowF B0 w tg T e k v n F) (q : Nat) : RowF B0 (w.drewN q) tg T e k v n F := h
theorem RowF.retag {tg' : Nat → Nat} {T' : Nat} (h : RowF B0 w tg T e k v n F) (ht : ∀ b, v.ownBlock = some b → tg' b = T') : RowF B0 w tg' T' e k v n F := by
  obtain ⟨xs, h1, h2, _⟩ := h
  exact ⟨xs, h1, h2, ht⟩
/-- What the value is, and what lies in its block. -/
theorem RowF.form (h : RowF B0 w tg T e k v n F) : ∃ a c, v = .slice a n c ∧ n ≤ c ∧ (0 < n → ∃ g, a = some ⟨g, 0, none⟩ ∧ B0 ≤ g ∧ g < w.heap.size ∧ tg g = T ∧ (∀ j, j < n * k → w.cell? ⟨g, j, none⟩ = some (F j)) ∧ ∀ j, w.frozen? ⟨g, j, none⟩ = false) := by
  obtain ⟨xs, h1, h2, h3⟩ := h
  rcases h1.2 with ⟨rfl, rfl⟩ | ⟨g, cap, cur, rfl, hb, hg, hnc, rest⟩
  · exact ⟨none, 0, rfl, Nat.le_refl _, fun h => by omega⟩
  · refine ⟨some ⟨g, 0, none⟩, cap, rfl, hnc, fun _ => ⟨g, rfl, hb, (Array.getElem?_eq_some_iff.1 hg).1, h3 g rfl, fun j hj => ?_, fun j => h1.frozenAt j⟩⟩
    rw [h1.cellAt j hj, h2 j hj]
/-- A store into the row. -/
theorem RowF.set {g c : Nat} (h : RowF B0 w tg T e k (.slice (some ⟨g, 0, none⟩) n c) n F) (j : Nat) (u : Value) (hj : j < n * k) (F' : Nat → Value) (hF : ∀ i, i < n * k → F' i = if i = j then u else F i) :
    RowF B0 (w.setCell ⟨g, j, none⟩ u) tg T e k (.slice (some ⟨g, 0, none⟩) n c) n F' := by
  obtain ⟨xs, h1, h2, h3⟩ := h
  refine ⟨_, (h1.stored j u).1, fun i hi => ?_, h3⟩
  rw [List.getElem?_set, hF i hi]
  by_cases e : j = i
  · subst e
    rw [if_pos rfl, if_pos rfl, if_pos (by rw [h1.1]; exact hj)]
  · rw [if_neg e, if_neg (fun q => e q.symm), h2 i hi]
theorem run_rowF {P : Program} (t ty : TypeId) (i : TypeInfo) (z : Value) (bytes : Nat) (ht : P.underlying t = some (.slice e)) (hi : P.info? e = some i) (hz : i.zero = some z)
    (hsize : i.size = k) (hby : i.bytes = bytes) (hzs : z.cells.size = k) (hsz : 0 < k) (row : RowF B0 w tg T e k v n F)
    (ad : Addr) (c : Nat) (news : List Value) (hl : news.length = k) (hnews : ∀ j u, news[j]? = some u → w.cell? (ad.add j) = some u) (h1 : ∀ u ∈ news, u.oneCell' = true)
    (h63 : n + 1 ≤ maxLen) (hbytes : (n + 1) * bytes ≤ 140737488355328) (hbase : B0 ≤ w.heap.size) (F' : Nat → Value) (hF : ∀ j, j < n * k → F' j = F j) (hF2 : ∀ j, j < k → news[j]? = some (F' (n * k + j))) :
    ∃ g cap w', (Builtin.append_ #[t, t] ty #[v, .slice (some ad) 1 c]).run P w = .ok (.slice (some ⟨g, 0, none⟩) (n + 1) cap) w' ∧
      RowF B0 w' (nT tg w.heap.size T) T e k (.slice (some ⟨g, 0, none⟩) (n + 1) cap) (n + 1) F' ∧ Fr (fun x => x = T) w tg w' (nT tg w.heap.size T) := by
  obtain ⟨xs, r1, r2, r3⟩ := row
  obtain ⟨g, cap, w', hr, h2, h3, h4, h5⟩ := run_append_lies (P := P) w t ty B0 e i z k bytes ht hi hz hsize hby hzs hsz v n xs r1 ad 1 c news (by omega) hnews h1 (by omega) h63 hbytes hbase _ rfl
  refine ⟨g, cap, w', hr, ⟨xs ++ news, h2, fun j hj => ?_, fun b hb => ?_⟩, Fr.of_grown tg T h3 r3⟩
  · by_cases q : j < n * k
    · rw [List.getElem?_append_left (by rw [r1.1]; exact q), r2 j q, hF j q]
    · rw [List.getElem?_append_right (by rw [r1.1]; omega), r1.1]
      have h : j - n * k < k := by have e : (n + 1) * k = n * k + k := by rw [Nat.add_mul, Nat.one_mul]
                                   omega
      rw [hF2 _ h, show n * k + (j - n * k) = j by omega]
  · have : g = b := by simpa [Value.ownBlock] using hb
    subst this
    rcases h4 with h4 | h4
    · rw [nT_lt _ _ _ _ (r1.lt g h4).2]; exact r3 g h4
    · exact nT_ge _ _ _ _ (by omega)
end
section
variable {P : Program} {w : World} {B0 : Nat} {tg : Nat → Nat} {T e k : Nat} {v : Value} {n : Nat} {F : Nat → Value}
/-- append of one element, at the operation; by the row's cells. -/
theorem wp_rowF {o : Oper} {a : Act} {K : Act → World → Prop} {Q : Exit → Act → World → Prop} (s x : Operand) (t : TypeId)
    (ho : o.op = .call { callee := .builtin .append, args := #[s, x], argTypes := #[t, t] })
    (i : TypeInfo) (z : Value) (bytes : Nat) (ht : P.underlying t = some (.slice e)) (hi : P.info? e = some i) (hz : i.zero = some z)
    (hsize : i.size = k) (hby : i.bytes = bytes) (hzs : z.cells.size = k) (hsz : 0 < k) (hs : a.eval s = v) (row : RowF B0 w tg T e k v n F)
    (ad : Addr) (c : Nat) (news : List Value) (hx : a.eval x = .slice (some ad) 1 c) (hl : news.length = k) (hnews : ∀ j u, news[j]? = some u → w.cell? (ad.add j) = some u) (h1 : ∀ u ∈ news, u.oneCell' = true)
    (h63 : n + 1 ≤ maxLen) (hbytes : (n + 1) * bytes ≤ 140737488355328) (hbase : B0 ≤ w.heap.size) (F' : Nat → Value) (hF : ∀ j, j < n * k → F' j = F j) (hF2 : ∀ j, j < k → news[j]? = some (F' (n * k + j)))
    (h : ∀ g cap w', RowF B0 w' (nT tg w.heap.size T) T e k (.slice (some ⟨g, 0, none⟩) (n + 1) cap) (n + 1) F' → Fr (fun x => x = T) w tg w' (nT tg w.heap.size T) → K (a.put o.dst (.slice (some ⟨g, 0, none⟩) (n + 1) cap)) w') : o.wp P a w K Q := by
  obtain ⟨g, cap, w', hr, h2, h3⟩ := run_rowF t o.type i z bytes ht hi hz hsize hby hzs hsz row ad c news hl hnews h1 h63 hbytes hbase F' hF hF2
  unfold Oper.wp execOp
  simp only [ho, resolve, invoke, builtin, Sem.run_bind, Sem.run_pure, Result.andThen_ok, List.map_toArray, List.map_cons, List.map_nil, hs, hx, hr]
  exact h g cap w' h2 h3
theorem wpList_rowF {ops : Array Oper} {rest : List Oper} {o : Oper} {a : Act} {Q : Exit → Act → World → Prop} (hgd : o.guard = none) (s x : Operand) (t : TypeId)
    (ho : o.op = .call { callee := .builtin .append, args := #[s, x], argTypes := #[t, t] })
    (i : TypeInfo) (z : Value) (bytes : Nat) (ht : P.underlying t = some (.slice e)) (hi : P.info? e = some i) (hz : i.zero = some z)
    (hsize : i.size = k) (hby : i.bytes = bytes) (hzs : z.cells.size = k) (hsz : 0 < k) (hs : a.eval s = v) (row : RowF B0 w tg T e k v n F)
    (ad : Addr) (c : Nat) (news : List Value) (hx : a.eval x = .slice (some ad) 1 c) (hl : news.length = k) (hnews : ∀ j u, news[j]? = some u → w.cell? (ad.add j) = some u) (h1 : ∀ u ∈ news, u.oneCell' = true)
    (h63 : n + 1 ≤ maxLen) (hbytes : (n + 1) * bytes ≤ 140737488355328) (hbase : B0 ≤ w.heap.size) (F' : Nat → Value) (hF : ∀ j, j < n * k → F' j = F j) (hF2 : ∀ j, j < k → news[j]? = some (F' (n * k + j)))
    (h : ∀ g cap w', RowF B0 w' (nT tg w.heap.size T) T e k (.slice (some ⟨g, 0, none⟩) (n + 1) cap) (n + 1) F' → Fr (fun x => x = T) w tg w' (nT tg w.heap.size T) → wpList P ops Q rest (a.put o.dst (.slice (some ⟨g, 0, none⟩) (n + 1) cap)) w') : wpList P ops Q (o :: rest) a w :=
  wpList_plain hgd fun _ hK => wp_rowF s x t ho i z bytes ht hi hz hsize hby hzs hsz hs row ad c news hx hl hnews h1 h63 hbytes hbase F' hF hF2 fun g cap w' h2 h3 => hK _ _ (h g cap w' h2 h3)
theorem step_rowF {ops : Array Oper} {o : Oper} {a : Act} {K : Act → World → Prop} {Q : Exit → Act → World → Prop} {E : Prop} (hgd : o.guard = none) (s x : Operand) (t : TypeId)
    (ho : o.op = .call { callee := .builtin .append, args := #[s, x], argTypes := #[t, t] })
    (i : TypeInfo) (z : Value) (bytes : Nat) (ht : P.underlying t = some (.slice e)) (hi : P.info? e = some i) (hz : i.zero = some z)
    (hsize : i.size = k) (hby : i.bytes = bytes) (hzs : z.cells.size = k) (hsz : 0 < k) (hs : a.eval s = v) (row : RowF B0 w tg T e k v n F)
    (ad : Addr) (c : Nat) (news : List Value) (hx : a.eval x = .slice (some ad) 1 c) (hl : news.length = k) (hnews : ∀ j u, news[j]? = some u → w.cell? (ad.add j) = some u) (h1 : ∀ u ∈ news, u.oneCell' = true)
    (h63 : n + 1 ≤ maxLen) (hbytes : (n + 1) * bytes ≤ 140737488355328) (hbase : B0 ≤ w.heap.size) (F' : Nat → Value) (hF : ∀ j, j < n * k → F' j = F j) (hF2 : ∀ j, j < k → news[j]? = some (F' (n * k + j)))
    (h : ∀ g cap w', RowF B0 w' (nT tg w.heap.size T) T e k (.slice (some ⟨g, 0, none⟩) (n + 1) cap) (n + 1) F' → Fr (fun x => x = T) w tg w' (nT tg w.heap.size T) → K (a.put o.dst (.slice (some ⟨g, 0, none⟩) (n + 1) cap)) w') :
    if Region.wanted o (yielded ops a.tmps) = true then Oper.wp P o a w K Q else E := by
  have hw : Region.wanted o (yielded ops a.tmps) = true := by simp [Region.wanted, hgd]
  rw [if_pos hw]
  exact wp_rowF s x t ho i z bytes ht hi hz hsize hby hzs hsz hs row ad c news hx hl hnews h1 h63 hbytes hbase F' hF hF2 h
end
/-- A row of node numbers. -/
def u32F (l : List Nat) : Nat → Value := fun j => .int .u32 ((l.getD j 0 : Nat) : Int)
def RowL (B0 : Nat) (w : World) (tg : Nat → Nat) (T : Nat) (v : Value) (l : List Nat) : Prop := RowF B0 w tg T 45 1 v l.length (u32F l)
theorem u32F_old (l : List Nat) (x : Nat) : ∀ j, j < l.length * 1 → u32F (l ++ [x]) j = u32F l j := fun j hj => by
  unfold u32F; simp [List.getD, List.getElem?_append_left (show j < l.length by omega)]
theorem u32F_new (l : List Nat) (x : Nat) : ∀ j, j < 1 → [Value.int .u32 (x : Int)][j]? = some (u32F (l ++ [x]) (l.length * 1 + j)) := fun j hj => by
  obtain rfl : j = 0 := by omega
  unfold u32F
  simp
theorem snoc_news (x : Value) (h : x.oneCell' = true) : ∀ u ∈ [x], u.oneCell' = true := by intro u hu; simp at hu; subst hu; exact h
end Go.Proofs.Ybulkxiu
