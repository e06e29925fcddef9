import Derived.Conc.LoneCalls
import Derived.Tactics2
/-! A region of one goroutine that holds a send into a channel with room, or a receive from a channel that holds something: rules beside the kit's 'Code.wp', over frames that are not 'early'. -/
namespace Go.Proofs.Ybulkxhs
open Go.Conc
variable {P : Program} {Q : Exit → Act → World → Prop} {a : Act} {w : World}

/-- 'Code.wp' over the frames of plain calls. -/
def wpN (P : Program) (c : Code) (Q : Exit → Act → World → Prop) (a : Act) (w : World) : Prop :=
  ∀ (b : Frame) (k : List Item) (cs : List Frame), b.kind ≠ .early → ∃ e a' w', Q e a' w' ∧ Arrives P (lone (b.at a (.code c :: k)) cs w) b k cs e a' w'

theorem wpN_of_wp {c : Code} (h : c.wp P Q a w) : wpN P c Q a w := fun b k cs _ => h b k cs

theorem wpN_seq {x y : Code} (h : wpN P x (Exit.then (wpN P y Q) Q) a w) : wpN P (Code.seq x y) Q a w := by
  intro b k cs hb
  obtain ⟨e, a₁, w₁, hq, harr⟩ := h b (.code y :: k) cs hb
  have pass : ∀ e', e' ≠ .normal → Exit.then (wpN P y Q) Q e' a₁ w₁ = Q e' a₁ w₁ := fun e' he => by cases e' <;> simp_all [Exit.then]
  by_cases he : e = .normal
  · subst he
    obtain ⟨e₂, a₂, w₂, hq₂, harr₂⟩ := hq b k cs hb
    exact ⟨e₂, a₂, w₂, hq₂, .of_steps (.head step_seq harr) harr₂⟩
  · rw [pass e he] at hq
    exact ⟨e, a₁, w₁, hq, .of_steps (.one step_seq) (.pass (x := .code y) rfl (fun _ _ => .inl he) harr)⟩

/-- A first statement that the kit walks; what follows under a name. -/
theorem wpN_seq_k {x y : Code} (h : ∀ K : Act → World → Prop, (∀ a w, wpN P y Q a w → K a w) → x.wp P (Exit.then K Q) a w) : wpN P (Code.seq x y) Q a w :=
  wpN_seq (wpN_of_wp (h _ fun _ _ h => h))

theorem calls_of_wpN {f : FuncId} {fn : Func} {c : Code} {args : Array Value} {R : Ending → World → Prop} (hf : P.funcs[f]? = some fn) (hb : fn.body = some c)
    (h : wpN P c (bodyPost P fn R) { tmps := args ++ Array.replicate (fn.ntmps - args.size) undef, defers := [] } w) : Calls P f args w R := by
  intro cs
  have hk : ({ (default : Frame) with fn := f, kind := .normal } : Frame).kind ≠ .early := by simp
  obtain ⟨e, a', w', hq, harr⟩ := h { (default : Frame) with fn := f, kind := .normal } [] cs hk
  have henter : Frame.enter P f args .normal =
      ({ (default : Frame) with fn := f, kind := .normal } : Frame).at { tmps := args ++ Array.replicate (fn.ntmps - args.size) undef, defers := [] } [.code c] := by
    simp [Frame.enter, Frame.at, hf, hb]
  rw [← henter] at harr
  cases e with
  | normal =>
    obtain ⟨hd, v, hr, hR⟩ := hq
    exact ⟨.returned v, w', _, hR, Steps.trans harr (.one step_end), rfl, rfl, hd, rfl, fn, hf, hr⟩
  | ret =>
    obtain ⟨hd, v, hr, hR⟩ := hq
    obtain ⟨todo, hs⟩ := harr
    exact ⟨.returned v, w', _, hR, hs, rfl, rfl, hd, rfl, fn, hf, hr⟩
  | panic chain =>
    obtain ⟨hd, hR⟩ := hq
    obtain ⟨todo, hs⟩ := harr
    exact ⟨.panicked chain, w', _, hR, hs, rfl, rfl, hd, fn, hf⟩
  | exit id => exact hq.elim
  | goto l => exact hq.elim
  | outgrown => exact ⟨.outgrown, w', ({ (default : Frame) with fn := f, kind := .normal } : Frame), hq, harr.resolve_left hk, rfl, trivial⟩

/-- In the middle of a region, the operations of 'l' being left. -/
def wpR (P : Program) (ops : Array Oper) (Q : Exit → Act → World → Prop) (l : List Nat) (a : Act) (w : World) : Prop :=
  ∀ (b : Frame) (k : List Item) (cs : List Frame), b.kind ≠ .early → ∃ e a' w', Q e a' w' ∧ Arrives P (lone (b.at a (.inRegion ops l :: k)) cs w) b k cs e a' w'

variable {ops : Array Oper} {i : Nat} {rest : List Nat} {o : Oper}

theorem wpN_region {id : Nat} (h : wpR P ops Q (List.range ops.size) a w) : wpN P (.region id ops false) Q a w :=
  fun b k cs hb => let ⟨e, a', w', q, r⟩ := h b k cs hb; ⟨e, a', w', q, .of_steps (.one step_region) r⟩

theorem wpR_end (h : Q .normal a w) : wpR P ops Q [] a w := fun _ _ _ _ => ⟨.normal, a, w, h, .one step_region_end⟩

theorem wanted_plain (hg : o.guard = none) : Region.wanted o (yielded ops a.tmps) = true := by simp [Region.wanted, hg]

theorem wpR_value {v : Value} {w₁ : World} (ho : ops[i]? = some o) (hg : o.guard = none) (hr : (execOp a.eval o).run P w = .ok (.value v) w₁) (h : wpR P ops Q rest (a.put o.dst v) w₁) : wpR P ops Q (i :: rest) a w := by
  intro b k cs hb
  obtain ⟨e, a', w', hq, harr⟩ := h b k cs hb
  refine ⟨e, a', w', hq, .of_steps (.one (step_lone_go ?_)) harr⟩
  have hf : (b.at a (.inRegion ops (i :: rest) :: k)).finish v = b.at (a.put o.dst v) (.inRegion ops rest :: k) := by rw [Frame.finish_at, ho]; rfl
  rw [stepG_op ho (wanted_plain hg), ← hf]
  simp [stepG.apply, hr]

theorem wpR_send {c cap s r : Nat} {buf : Array Value} {v z : Value} {tm : Bool} {w₁ : World} (ho : ops[i]? = some o) (hg : o.guard = none)
    (hr : (execOp a.eval o).run P w = .ok (.comm #[scase c v z] true .send) w₁) (hc : w₁.heap[c]? = some (.chan cap buf false s r tm)) (hroom : buf.size < cap)
    (h : wpR P ops Q rest (a.put o.dst undef) (w₁.setChan c cap (buf.push v) false (s + 1) r tm)) : wpR P ops Q (i :: rest) a w := by
  intro b k cs hb
  obtain ⟨e, a', w', hq, harr⟩ := h b k cs hb
  have hf : (b.at a (.inRegion ops (i :: rest) :: k)).finish undef = b.at (a.put o.dst undef) (.inRegion ops rest :: k) := by rw [Frame.finish_at, ho]; rfl
  have hs := step_lone_send_room (fr := b.at a (.inRegion ops (i :: rest) :: k)) (cs := cs) (stepG_comm (P := P) (main := true) ho (wanted_plain hg) hb hr) hc hroom
  rw [hf] at hs
  exact ⟨e, a', w', hq, .of_steps (.one hs) harr⟩

theorem wpR_recv {c cap s r : Nat} {buf : Array Value} {z : Value} {tm closed : Bool} {w₁ : World} (ho : ops[i]? = some o) (hg : o.guard = none)
    (hr : (execOp a.eval o).run P w = .ok (.comm #[rcase c z] true (.recv false)) w₁) (hc : w₁.heap[c]? = some (.chan cap buf closed s r tm)) (hsome : 0 < buf.size)
    (h : wpR P ops Q rest (a.put o.dst (buf.getD 0 undef)) (w₁.setChan c cap (buf.extract 1 buf.size) closed s (r + 1) tm)) : wpR P ops Q (i :: rest) a w := by
  intro b k cs hb
  obtain ⟨e, a', w', hq, harr⟩ := h b k cs hb
  have hf : (b.at a (.inRegion ops (i :: rest) :: k)).finish (buf.getD 0 undef) = b.at (a.put o.dst (buf.getD 0 undef)) (.inRegion ops rest :: k) := by rw [Frame.finish_at, ho]; rfl
  have hs := step_lone_recv_buf (fr := b.at a (.inRegion ops (i :: rest) :: k)) (cs := cs) false (stepG_comm (P := P) (main := true) ho (wanted_plain hg) hb hr) hc hsome
  simp only [got, Bool.false_eq_true, if_false] at hs
  rw [hf] at hs
  exact ⟨e, a', w', hq, .of_steps (.one hs) harr⟩
end Go.Proofs.Ybulkxhs
