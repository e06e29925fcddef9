import Derived.Test.YbulkxheParts
namespace Go.Proofs.Ybulkxhe
open Go.RowKit

/-- What the walk is told of the items that came in. -/
def ItemAt (w : World) (b o : Nat) (f : Bool) (fr ow rd kd : Int) (s : ByteArray) : Prop :=
  w.cell? ⟨b, o, none⟩ = some (.bool f) ∧ w.cell? ⟨b, o + 1, none⟩ = some (.int .i64 fr) ∧ w.cell? ⟨b, o + 2, none⟩ = some (.int .i64 ow) ∧
  w.cell? ⟨b, o + 3, none⟩ = some (.int .i64 rd) ∧ w.cell? ⟨b, o + 4, none⟩ = some (.int .u8 kd) ∧ w.cell? ⟨b, o + 5, none⟩ = some (.string s)
def IsItems (w : World) (a : Option Addr) (len : Nat) : Prop :=
  ∃ b off, (0 < len → a = some ⟨b, off, none⟩ ∧ b < w.heap.size) ∧ ∀ i, i < len → ∃ f fr ow rd kd s, ItemAt w b (off + i * 6) f fr ow rd kd s

theorem own_apart {w : World} {base n m : Nat} {u v : Value} {xs ys : List Value} (h1 : w.ownsRow base 28 2 u n xs) (h2 : w.ownsRow base 24 1 v m ys) : u.ownBlock = none ∨ u.ownBlock ≠ v.ownBlock := by
  rcases h1.2 with ⟨rfl, _⟩ | ⟨g, cap, cur, rfl, _, hg, _⟩
  · left; rfl
  · right
    rcases h2.2 with ⟨rfl, _⟩ | ⟨g', cap', cur', rfl, _, hg', _⟩
    · simp [Value.ownBlock]
    · intro h
      simp [Value.ownBlock] at h
      subst h
      rw [hg] at hg'
      simp at hg'
theorem own_apart' {w : World} {base n m : Nat} {u v : Value} {xs ys : List Value} (h1 : w.ownsRow base 28 2 u n xs) (h2 : w.ownsRow base 24 1 v m ys) : v.ownBlock = none ∨ v.ownBlock ≠ u.ownBlock := by
  rcases own_apart h1 h2 with h | h
  · cases hv : v.ownBlock with
    | none => left; rfl
    | some x => right; rw [h]; simp
  · right; exact fun e => h e.symm
theorem below_grown {w w' : World} (h : Below w.heap.size w w') : w.grownBy w' none := ⟨h.os, h.tape, h.output, h.size, fun k hk _ => h.block k hk⟩
theorem own_below {w w' : World} (h : Below w.heap.size w w') {base e size n : Nat} {v : Value} {xs : List Value} (ho : w.ownsRow base e size v n xs) : w'.ownsRow base e size v n xs :=
  ho.kept (below_grown h) (by cases v.ownBlock <;> simp)
theorem own_form {w : World} {base e size n : Nat} {v : Value} {xs : List Value} (ho : w.ownsRow base e size v n xs) :
    ∃ a cap, v = .slice a n cap ∧ (0 < n → ∃ g, a = some ⟨g, 0, none⟩ ∧ g < w.heap.size ∧ ∀ j u, xs[j]? = some u → w.cell? ⟨g, j, none⟩ = some u) := by
  rcases ho.2 with ⟨rfl, rfl⟩ | ⟨g, cap, cur, rfl, _, hg, _⟩
  · exact ⟨none, 0, rfl, fun h => absurd h (by omega)⟩
  · refine ⟨some ⟨g, 0, none⟩, cap, rfl, fun _ => ⟨g, rfl, (Array.getElem?_eq_some_iff.1 hg).1, fun j u hu => ?_⟩⟩
    have := ho.cells (g := g) rfl j u hu
    rwa [show (⟨g, 0, none⟩ : Addr).add j = ⟨g, j, none⟩ by unfold Addr.add; split <;> simp_all] at this
theorem inb_snoc (ps : List Msg) (p : Msg) : inb (ps ++ [p]) = inb ps ++ mcells p := by simp [inb]
theorem news_two (w : World) (x y : Value) (t : TypeId) (n : Nat) (h : w.heap.size = n) : ∀ j u, [x, y][j]? = some u → (w.alloc (.cells #[x, y] t)).cell? ((⟨n, 0, none⟩ : Addr).add j) = some u := by
  subst h
  exact World.news_of_block (cs := #[x, y]) (t := t) (fr := (0, 0)) (heap_alloc_new w _)
theorem wants_snoc_no (ps : List Msg) (fr : Int) (g : Nat) : wants (ps ++ [(fr, true, g)]) = wants ps := by simp [wants]
theorem wants_snoc_yes (ps : List Msg) (fr : Int) (g : Nat) : wants (ps ++ [(fr, false, g)]) = wants ps ++ [.pointer (some ⟨g, 0, none⟩)] := by simp [wants]

theorem neq_same (a : Addr) (w : World) : (binOp .neq 24 (.pointer (some a)) (.pointer (some a))).run Yba.prog w = .ok (.bool false) w := by
  obtain ⟨j, hte⟩ : ∃ j, Yba.prog.info? 43 = some j := ⟨_, rfl⟩
  have h : ∀ d : Nat, (Op.equalIn (d + 1) 24 (.pointer (some a)) (.pointer (some a))).run Yba.prog w = .ok true w := fun d => by
    simp [Op.equalIn, run_underlying Yba.underlying24, sizeOf, typeInfo, hte, run_sameAddr_same]
  simp only [binOp]
  simp [Op.equal, Op.maxDepth, h 9999]
theorem step_in {w : World} {base g4 c4 : Nat} {ps : List Msg} (f : Bool) (fr : Int) (g : Nat) (h : w.ownsRow base 28 2 (.slice (some ⟨g4, 0, none⟩) (ps.length + 1) c4) (ps.length + 1) (inb ps ++ mcells (fr, f, g))) :
    w.ownsRow base 28 2 (.slice (some ⟨g4, 0, none⟩) (ps.length + 1) c4) (ps ++ [(fr, f, g)]).length (inb (ps ++ [(fr, f, g)])) := by
  rw [inb_snoc]; simpa using h
theorem step_want {w : World} {base g5 c5 : Nat} {ps : List Msg} (fr : Int) (g : Nat) (h : w.ownsRow base 24 1 (.slice (some ⟨g5, 0, none⟩) ((wants ps).length + 1) c5) ((wants ps).length + 1) (wants ps ++ [.pointer (some ⟨g, 0, none⟩)])) :
    w.ownsRow base 24 1 (.slice (some ⟨g5, 0, none⟩) ((wants ps).length + 1) c5) (wants (ps ++ [(fr, false, g)])).length (wants (ps ++ [(fr, false, g)])) := by
  rw [wants_snoc_yes]; simpa using h

set_option maxHeartbeats 1600000 in
set_option maxRecDepth 100000 in
theorem walk (a0 : Option Addr) (len cap : Nat) (w : World) (w0 : IsItems w a0 len) :
    Calls Yba.prog 4 #[.slice a0 len cap] w fun e w' => e = .returned (.bool true) ∧ Below w.heap.size w w' := by
  by_cases hbig : 1024 < len
  · have hb' : (1024 : Int) < (len : Int) := by omega
    go_enter Yba.func4, Yba.ntmps4
    go_wp2
    go_ret
    exact ⟨rfl, Below.refl _ _⟩
  have hle : len ≤ 1024 := by omega
  have hle' : ¬ (1024 : Int) < (len : Int) := by omega
  clear hbig
  obtain ⟨b, off, ha, hc⟩ := w0
  obtain ⟨i0, hi, hz0, hz1, hz2⟩ := info_parts Yba.info24
  obtain ⟨i1, hi1, hy0, hy1, hy2⟩ := info_parts Yba.info28
  go_enter Yba.func4, Yba.ntmps4
  go_wp2_with (at_make; refine wpList_make_own _ rfl _ _ 46 rfl w.heap.size 28 i1 _ 2 Yba.underlying46 hi1 hy0 hy1 .i64 .i64 _ len rfl rfl rfl (by rw [hy2]; omega) (by unfold maxLen; omega) (Nat.le_refl _) ?_; intro w1 hown1 hgr1)
  go_loopw [3, 4, 5] (fun v3 v4 i wr => ∃ ps : List Msg, ps.length ≤ len ∧ i = .int .i64 ps.length ∧ wr.ownsRow w.heap.size 28 2 v3 ps.length (inb ps) ∧ (∃ g c, v3 = .slice (some ⟨g, 0, none⟩) ps.length c ∧ g < wr.heap.size) ∧
      wr.ownsRow w.heap.size 24 1 v4 (wants ps).length (wants ps) ∧ Below w.heap.size w wr)
    (fun _ _ i _ => len - (intOf i).toNat)
  case atStart => exact ⟨[], Nat.zero_le _, rfl, hown1, ⟨_, _, rfl, (hown1.lt w.heap.size rfl).2⟩, World.ownsRow_nil _ _ _ _, (Below.refl _ _).grown hgr1 (Nat.le_refl _) (fun j hj => by cases hj)⟩
  case round =>
    clear hown1 hgr1
    obtain ⟨ps, hk, rfl, hown3, ⟨g3, c3, rfl, hg3⟩, hown4, hnx⟩ := hrel
    have hsz := hnx.size
    by_cases hlt : ps.length < len
    · obtain ⟨rfl, hbw⟩ := ha (by omega)
      obtain ⟨f, fr, ow, rd, kd, s, q0, q1, q2, q3, q4, q5⟩ := hc _ hlt
      clear ha hc
      have q0 := (hnx.cell (p := ⟨b, off + ps.length * 6, none⟩) hbw).trans q0
      have q1 := (hnx.cell (p := ⟨b, off + ps.length * 6 + 1, none⟩) hbw).trans q1
      have q2 := (hnx.cell (p := ⟨b, off + ps.length * 6 + 2, none⟩) hbw).trans q2
      have q3 := (hnx.cell (p := ⟨b, off + ps.length * 6 + 3, none⟩) hbw).trans q3
      have q4 := (hnx.cell (p := ⟨b, off + ps.length * 6 + 4, none⟩) hbw).trans q4
      have q5 := (hnx.cell (p := ⟨b, off + ps.length * 6 + 5, none⟩) hbw).trans q5
      cases f
      · go_wp2_with fail
        refine (build_any false fr ow rd kd s _).mono ?_
        rintro e w2 ⟨g, hg1, hg2, rfl, hb2⟩
        have q1' := (hb2.cell (p := ⟨b, off + ps.length * 6 + 1, none⟩) (by simp; omega)).trans q1
        have o3 := own_below hb2 hown3
        have o4 := own_below hb2 hown4
        have hnx2 := hnx.trans (hb2.mono hsz)
        have hsz2 := hb2.size
        clear q0 q1 q2 q3 q4 q5 hown3 hown4 hnx hb2
        have hwl := wants_le ps
        go_wp2_with (first | (at_builtin; refine wpList_append_lies _ rfl (.tmp 30) (.tmp 38) 46 rfl w.heap.size 28 i1 (.agg #[.int .i64 0, .nilIface]) 2 24 Yba.underlying46 hi1 hy0 hy1 hy2 rfl (by decide) _ _ _ rfl (o3.alloc _) ⟨w2.heap.size, 0, none⟩ 1 1 [.int .i64 fr, .iface 24 (.pointer (some ⟨g, 0, none⟩))] rfl rfl (news_two _ _ _ _ _ rfl) (by intro u hu; simp at hu; rcases hu with rfl | rfl <;> rfl) (by omega) (by unfold maxLen; omega) (by omega) (by simp; omega) _ rfl ?_; intro g4 c4 w3 ho3 hgr3 hat3 hlt3; have o3' := step_in false fr g ho3; have o4' := (o4.alloc _).kept hgr3 (own_apart' o3 o4); have hnx3 : Below w.heap.size w w3 := (hnx2.alloc (by omega) _).grown hgr3 (by simp; omega) (fun j hj => (o3.lt j hj).1); have hsz3 := hnx3.size; clear ho3 hgr3 hat3) | (at_builtin; refine wpList_append_lies _ rfl (.tmp 42) (.tmp 44) 34 rfl w.heap.size 24 i0 (.pointer none) 1 8 Yba.underlying34 hi hz0 hz1 hz2 rfl (by decide) _ _ _ rfl (o4'.alloc _) ⟨w3.heap.size, 0, none⟩ 1 1 [.pointer (some ⟨g, 0, none⟩)] rfl rfl (news_one _ _ _ _ rfl) (by intro u hu; simp at hu; subst hu; rfl) (by omega) (by unfold maxLen; omega) (by omega) (by simp; omega) _ rfl ?_; intro g5 c5 w4 ho4 hgr4 hat4 hlt4; have o4'' := step_want fr g ho4; have o3'' := (o3'.alloc _).kept hgr4 (own_apart o3' o4'); have hnx4 : Below w.heap.size w w4 := (hnx3.alloc (by omega) _).grown hgr4 (by simp; omega) (fun j hj => (o4'.lt j hj).1); have hg4 := (o3''.lt g4 rfl).2; clear ho4 hgr4 hat4))
        go_roundw
        case rel => exact ⟨ps ++ [(fr, false, g)], by simp; omega, by simp, o3'', ⟨g4, c4, by simp, hg4⟩, o4'', hnx4⟩
        case measure => simp [intOf]; omega
      · go_wp2_with fail
        refine (build_any true fr ow rd kd s _).mono ?_
        rintro e w2 ⟨g, hg1, hg2, rfl, hb2⟩
        have q1' := (hb2.cell (p := ⟨b, off + ps.length * 6 + 1, none⟩) (by simp; omega)).trans q1
        have o3 := own_below hb2 hown3
        have o4 := own_below hb2 hown4
        have hnx2 := hnx.trans (hb2.mono hsz)
        have hsz2 := hb2.size
        clear q0 q1 q2 q3 q4 q5 hown3 hown4 hnx hb2
        have hwl := wants_le ps
        go_wp2_with (at_builtin; refine wpList_append_lies _ rfl (.tmp 30) (.tmp 38) 46 rfl w.heap.size 28 i1 (.agg #[.int .i64 0, .nilIface]) 2 24 Yba.underlying46 hi1 hy0 hy1 hy2 rfl (by decide) _ _ _ rfl (o3.alloc _) ⟨w2.heap.size, 0, none⟩ 1 1 [.int .i64 fr, .iface 30 (.pointer (some ⟨g, 0, none⟩))] rfl rfl (news_two _ _ _ _ _ rfl) (by intro u hu; simp at hu; rcases hu with rfl | rfl <;> rfl) (by omega) (by unfold maxLen; omega) (by omega) (by simp; omega) _ rfl ?_; intro g4 c4 w3 ho3 hgr3 hat3 hlt3; have o3' := step_in true fr g ho3; have o4' := (o4.alloc _).kept hgr3 (own_apart' o3 o4); have hnx3 : Below w.heap.size w w3 := (hnx2.alloc (by omega) _).grown hgr3 (by simp; omega) (fun j hj => (o3.lt j hj).1); have hsz3 := hnx3.size; clear ho3 hgr3 hat3)
        have hg4 := (o3'.lt g4 rfl).2
        go_roundw
        case rel => exact ⟨ps ++ [(fr, true, g)], by simp; omega, by simp, o3', ⟨g4, c4, by simp, hg4⟩, by rw [wants_snoc_no]; exact o4', hnx3⟩
        case measure => simp [intOf]; omega
    · go_wp2_with fail
      clear ha hc
      refine (signedIn_any ps g3 c3 wr (by omega) hg3 (fun j u hj => ?_)).mono ?_
      · have := hown3.cells (g := g3) rfl j u hj
        rwa [show (⟨g3, 0, none⟩ : Addr).add j = ⟨g3, j, none⟩ by unfold Addr.add; split <;> simp_all] at this
      rintro e w2 ⟨v, rfl, hgot, hb2⟩
      have o4 := own_below hb2 hown4
      obtain ⟨a5, c5, rfl, h5⟩ := own_form hgot
      obtain ⟨a6, c6, h6v, h6⟩ := own_form o4
      have hnx2 := hnx.trans (hb2.mono hsz)
      have hsz2 := hb2.size
      have hwl := wants_le ps
      clear hown3 hown4 hnx hb2 hgot o4 hg3
      have hn1 : ps.length ≤ 1024 := by omega
      subst h6v
      generalize hn : (wants ps).length = n at *
      have hget : ∀ k, k < n → ∃ x, (wants ps)[k]? = some (.pointer (some x)) := by
        intro k hk
        obtain ⟨p, hp⟩ : ∃ p, (ps.filter fun p => !p.2.1)[k]? = some p := ⟨_, List.getElem?_eq_getElem (by unfold wants at hn; rw [List.length_map] at hn; omega)⟩
        exact ⟨_, by unfold wants; rw [List.getElem?_map, hp]; rfl⟩
      clear hn
      generalize wants ps = ws at *
      go_wp2_with fail
      go_loopw [9] (fun i wr' => ∃ k : Nat, k ≤ n ∧ i = .int .i64 k ∧ Below w2.heap.size w2 wr') (fun i _ => n - (intOf i).toNat)
      case atStart => exact ⟨0, Nat.zero_le _, rfl, Below.refl _ _⟩
      case round =>
        obtain ⟨k, hk, rfl, hnx3⟩ := hrel
        by_cases hlt2 : k < n
        · obtain ⟨g5, rfl, hg5, hc5⟩ := h5 (by omega)
          obtain ⟨g6, rfl, hg6, hc6⟩ := h6 (by omega)
          obtain ⟨x, hx⟩ := hget k hlt2
          have d5 := (hnx3.cell (p := ⟨g5, k, none⟩) hg5).trans (hc5 k _ hx)
          have d6 := (hnx3.cell (p := ⟨g6, k, none⟩) hg6).trans (hc6 k _ hx)
          have e1 := neq_same
          clear h5 h6 hc5 hc6 hget hx hg5 hg6
          go_wp2
          go_quiet (fail)
          have hnx4 := below_drewN hnx3 nq
          clear d5 d6 e1 hnx3
          go_wp2
          go_roundw
          case rel => exact ⟨k + 1, by omega, by go_num, hnx4⟩
          case measure => simp [intOf]; omega
        · go_wp2
          go_ret
          exact ⟨rfl, hnx2.trans (hnx3.mono (by omega))⟩
end Go.Proofs.Ybulkxhe
