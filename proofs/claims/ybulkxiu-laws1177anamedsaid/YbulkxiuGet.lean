import Derived.Test.YbulkxiuIndex
namespace Go.Proofs.Ybulkxiu
open Go.RowKit
set_option maxRecDepth 100000

def decV (e : Option Nat) : Value := .agg #[evV e, .int .u64 0, .int .u32 0, .int .u8 0, .int .u8 0, .bool false, .bool false]
def zzS : ByteArray := ⟨#[122, 122]⟩
/-- The string asked for, and what get is to find: record j, or nothing. -/
def Asks (i : Nat) (s : ByteArray) (c : Nat) : Option Nat → Prop
  | some j => j < i ∧ s = idS j ∧ c = j % 26
  | none => s = zzS ∧ c = 25
/-- The number that slots holds for letter c. -/
def slotN (i c : Nat) : Nat := if c < i then lastN i c + 1 else 0
theorem slot_get {i c : Nat} (hc : c < 26) : (slotF i (97 + (c : Int))).getD (.int .u32 0) = .int .u32 (slotN i c) := by
  unfold slotF slotN
  by_cases h : c < i
  · rw [if_pos (by omega), if_pos h, show ((97 : Int) + (c : Int) - 97).toNat = c by omega]; rfl
  · rw [if_neg (by omega), if_neg h]; rfl

/-- How the walk down a chain stands at number r. -/
def Chain (i c : Nat) (t : Option Nat) (r : Nat) : Prop := (r = 0 → t = none) ∧ ∀ r', r = r' + 1 → r' < i ∧ r' % 26 = c ∧ ∀ j, t = some j → j ≤ r'
theorem chain_start {i c : Nat} {s : ByteArray} {t : Option Nat} (hc : c < 26) (ha : Asks i s c t) : Chain i c t (slotN i c) := by
  unfold slotN
  by_cases h : c < i
  · rw [if_pos h]
    obtain ⟨h1, h2, h3⟩ := lastN_spec hc h
    refine ⟨fun e => by omega, fun r' e => ?_⟩
    obtain rfl : r' = lastN i c := by omega
    refine ⟨h1, h2, fun j e => ?_⟩
    subst e
    obtain ⟨g1, _, g3⟩ := ha
    omega
  · rw [if_neg h]
    refine ⟨fun _ => ?_, fun r' e => by omega⟩
    cases t with
    | none => rfl
    | some j => obtain ⟨g1, _, g3⟩ := ha; omega
theorem chain_next {i c : Nat} {s : ByteArray} {t : Option Nat} {r : Nat} (ha : Asks i s c t) (h : Chain i c t (r + 1)) (hne : ∀ j, t = some j → j ≠ r) : Chain i c t (sameN r) := by
  obtain ⟨h1, h2, h3⟩ := h.2 r rfl
  unfold sameN
  by_cases h26 : r < 26
  · rw [if_pos h26]
    refine ⟨fun _ => ?_, fun r' e => by omega⟩
    cases t with
    | none => rfl
    | some j => have := h3 j rfl; have := hne j rfl; have := ha.2.2; omega
  · rw [if_neg h26]
    refine ⟨fun e => by omega, fun r' e => ⟨by omega, by omega, fun j ej => ?_⟩⟩
    have a1 := h3 j ej; have a2 := hne j ej
    subst ej
    have := ha.2.2; omega
def zeros81 : Obj := .cells #[.pointer none, .int .u64 0, .int .u32 0, .int .u8 0, .int .u8 0, .bool false, .bool false] 81

theorem bytes_ext {a b : ByteArray} (h : a.toList = b.toList) : a = b := by
  rw [ByteArray.toList_eq, ByteArray.toList_eq] at h
  obtain ⟨⟨x⟩⟩ := a
  obtain ⟨⟨y⟩⟩ := b
  cases h; rfl
/-- The seven stores of a record. -/
def put (w : World) (g : Nat) (v0 v1 v2 v3 v4 v5 v6 : Value) : World :=
  ((((((w.setCell ⟨g, 0, none⟩ v0).setCell ⟨g, 1, none⟩ v1).setCell ⟨g, 2, none⟩ v2).setCell ⟨g, 3, none⟩ v3).setCell ⟨g, 4, none⟩ v4).setCell ⟨g, 5, none⟩ v5).setCell ⟨g, 6, none⟩ v6
theorem put_below {B : Nat} {a w : World} (h : RowKit.Below B a w) (g : Nat) (hg : B ≤ g) (v0 v1 v2 v3 v4 v5 v6 : Value) : RowKit.Below B a (put w g v0 v1 v2 v3 v4 v5 v6) := by
  unfold put
  have h1 := h.setCell (p := ⟨g, 0, none⟩) hg v0
  have h2 := h1.setCell (p := ⟨g, 1, none⟩) hg v1
  have h3 := h2.setCell (p := ⟨g, 2, none⟩) hg v2
  have h4 := h3.setCell (p := ⟨g, 3, none⟩) hg v3
  have h5 := h4.setCell (p := ⟨g, 4, none⟩) hg v4
  have h6 := h5.setCell (p := ⟨g, 5, none⟩) hg v5
  exact h6.setCell (p := ⟨g, 6, none⟩) hg v6
theorem put_cells {w : World} {g : Nat} (h : w.heap[g]? = some zeros81) (v0 v1 v2 v3 v4 v5 v6 : Value) : (put w g v0 v1 v2 v3 v4 v5 v6).heap[g]? = some (.cells #[v0, v1, v2, v3, v4, v5, v6] 81) := by
  unfold put
  have h1 := heap_setCell_same w g 0 _ 81 v0 h
  have h2 := heap_setCell_same _ g 1 _ 81 v1 h1
  have h3 := heap_setCell_same _ g 2 _ 81 v2 h2
  have h4 := heap_setCell_same _ g 3 _ 81 v3 h3
  have h5 := heap_setCell_same _ g 4 _ 81 v4 h4
  have h6 := heap_setCell_same _ g 5 _ 81 v5 h5
  exact heap_setCell_same _ g 6 _ 81 v6 h6
theorem ret_cell {w : World} {g : Nat} {v0 v1 v2 v3 v4 v5 v6 : Value} (h : w.heap[g]? = some (.cells #[v0, v1, v2, v3, v4, v5, v6] 81)) (u : Value) :
    (((asAddr (.pointer (some ⟨g, 0, none⟩))).run Yba.prog w).andThen fun a w₁ => ((loadVar 81 a).run Yba.prog w₁).andThen fun v w₂ => Result.ok (Value.tuple #[v, u]) w₂) = .ok (Value.tuple #[.agg #[v0, v1, v2, v3, v4, v5, v6], u]) w := by
  have z0 : w.cell? ⟨g, 0, none⟩ = some v0 := by rw [cell_of_row _ g 0 _ 81 (0, 0) h]; rfl
  have z1 : w.cell? ⟨g, 1, none⟩ = some v1 := by rw [cell_of_row _ g 1 _ 81 (0, 0) h]; rfl
  have z2 : w.cell? ⟨g, 2, none⟩ = some v2 := by rw [cell_of_row _ g 2 _ 81 (0, 0) h]; rfl
  have z3 : w.cell? ⟨g, 3, none⟩ = some v3 := by rw [cell_of_row _ g 3 _ 81 (0, 0) h]; rfl
  have z4 : w.cell? ⟨g, 4, none⟩ = some v4 := by rw [cell_of_row _ g 4 _ 81 (0, 0) h]; rfl
  have z5 : w.cell? ⟨g, 5, none⟩ = some v5 := by rw [cell_of_row _ g 5 _ 81 (0, 0) h]; rfl
  have z6 : w.cell? ⟨g, 6, none⟩ = some v6 := by rw [cell_of_row _ g 6 _ 81 (0, 0) h]; rfl
  clear h
  go_simp

set_option maxHeartbeats 2000000 in
theorem get_any {w : World} {xB rb cr db cd ib ci ab ca mb nm i : Nat} {evp : Nat → Option Nat} (h : XMem w xB rb cr db cd ib ci ab ca mb nm i evp) (s : ByteArray) (c : Nat) (t : Option Nat) (ha : Asks i s c t) :
    Calls Yba.prog 13 #[.pointer (some ⟨xB, 0, none⟩), .string s] w fun e w' => e = .returned (.tuple #[decV (t.bind evp), .bool t.isSome]) ∧ RowKit.Below w.heap.size w w' := by
  have hc26 : c < 26 := by cases t with
    | none => exact ha.2 ▸ (by omega)
    | some j => have := ha.2.2; omega
  have hh : ∀ W, Calls Yba.prog 9 #[.string s] W fun e w' => e = .returned (.int .u64 (97 + (c : Int))) ∧ w' = W := fun W => by
    cases t with
    | none => obtain ⟨rfl, rfl⟩ := ha; exact (hash_zz W).mono fun _ _ ⟨h1, h2⟩ => ⟨h1, h2.symm⟩
    | some j => obtain ⟨_, rfl, rfl⟩ := ha; exact (hash_three _ _ _ W (by omega) (by omega)).mono fun _ _ ⟨h1, h2⟩ => ⟨h1, h2.symm⟩
  have HX := toAside h
  have HA := toAside ha
  clear h ha
  go_enter Yba.func13, Yba.ntmps13
  go_wp2
  have B1 : RowKit.Below w.heap.size w (w.alloc (.cells #[.pointer none, .int .u64 0, .int .u32 0, .int .u8 0, .int .u8 0, .bool false, .bool false] 81)) := (RowKit.Below.refl _ _).alloc (Nat.le_refl _) _
  have X1 := toAside (HX.out.below B1)
  have N1 := heap_alloc_new w (.cells #[.pointer none, .int .u64 0, .int .u32 0, .int .u8 0, .int .u8 0, .bool false, .bool false] 81)
  have S1 : w.heap.size < (w.alloc (.cells #[.pointer none, .int .u64 0, .int .u32 0, .int .u8 0, .int .u8 0, .bool false, .bool false] 81)).heap.size := by simp
  obtain ⟨w1, hw1⟩ : ∃ w1, w1 = w.alloc (.cells #[.pointer none, .int .u64 0, .int .u32 0, .int .u8 0, .int .u8 0, .bool false, .bool false] 81) := ⟨_, rfl⟩
  rw [← hw1] at X1 N1 B1 S1 ⊢
  clear hw1 HX
  obtain ⟨W4, hW4⟩ : ∃ W4, W4 = w.heap.size := ⟨_, rfl⟩
  rw [← hW4] at N1 B1 S1 ⊢
  have HW4 : Hid (W4 = w.heap.size) := hW4
  clear hW4
  have BB1 := toAside B1
  have NN1 := toAside N1
  have SS1 := toAside S1
  clear B1 N1 S1
  have q0 := X1.out.x0
  have q1 := X1.out.x1
  have look1 : ∀ n, (Instr.lookup 65 (.map (some mb)) (.int .u64 (97 + (c : Int))) false).run Yba.prog (w1.drewN n) = .ok (.int .u32 (slotN i c)) (w1.drewN n) := fun n => by
    have hwf : (Lit.int .u64 (97 + (c : Int))).wf = true := by
      simp only [Lit.wf, Bool.and_eq_true, decide_eq_true_eq]
      exact ⟨by show (0 : Int) ≤ _; omega, by show _ ≤ (18446744073709551615 : Int); omega⟩
    have := (X1.out.mp.of (w' := w1.drewN n) rfl).look Yba.underlying77 Yba.underlying65 (Yba.zeroValue45 _) hwf
    rwa [slot_get hc26] at this
  go_quiet (first | (go_at_call 9; refine Calls.quiet_of_same (hh _)) | (go_at_fn 9; refine Calls.quiet_of_same (hh _)))
  clear look1 q0 q1 hh
  have X2 : Aside (XMem (w1.drewN nq) xB rb cr db cd ib ci ab ca mb nm i evp) := X1.out.of (fun _ _ e => e) rfl
  have N2 : Aside ((w1.drewN nq).heap[W4]? = some zeros81) := NN1.out
  have S2 : Aside (W4 < (w1.drewN nq).heap.size) := SS1.out
  have B2 : Aside (RowKit.Below W4 w (w1.drewN nq)) := ⟨BB1.out.os, BB1.out.tape, BB1.out.output, BB1.out.size, BB1.out.block⟩
  clear X1 NN1 SS1 BB1
  generalize w1.drewN nq = w2 at X2 N2 S2 B2 ⊢
  clear nq
  have C2 := toAside (chain_start hc26 HA.out)
  go_wp2
  go_loopg [6] (slotN i c) (fun kx s6 wr => ∃ r : Nat, s6 = .int .u32 r ∧ r ≤ kx ∧ Aside (Chain i c t r) ∧ Aside (XMem wr xB rb cr db cd ib ci ab ca mb nm i evp) ∧ Aside (wr.heap[W4]? = some zeros81) ∧ Aside (W4 < wr.heap.size) ∧ Aside (RowKit.Below W4 w wr))
  case atStart => exact ⟨_, rfl, Nat.le_refl _, C2, X2, N2, S2, B2⟩
  case round =>
    clear C2 X2 N2 S2 B2
    obtain ⟨r, rfl, hkx, C2, X2, N2, S2, B2⟩ := hrel
    have z0 : wr.cell? ⟨W4, 0, none⟩ = some (.pointer none) := by rw [cell_of_row _ W4 0 _ 81 (0, 0) N2.out]; rfl
    have z1 : wr.cell? ⟨W4, 1, none⟩ = some (.int .u64 0) := by rw [cell_of_row _ W4 1 _ 81 (0, 0) N2.out]; rfl
    have z2 : wr.cell? ⟨W4, 2, none⟩ = some (.int .u32 0) := by rw [cell_of_row _ W4 2 _ 81 (0, 0) N2.out]; rfl
    have z3 : wr.cell? ⟨W4, 3, none⟩ = some (.int .u8 0) := by rw [cell_of_row _ W4 3 _ 81 (0, 0) N2.out]; rfl
    have z4 : wr.cell? ⟨W4, 4, none⟩ = some (.int .u8 0) := by rw [cell_of_row _ W4 4 _ 81 (0, 0) N2.out]; rfl
    have z5 : wr.cell? ⟨W4, 5, none⟩ = some (.bool false) := by rw [cell_of_row _ W4 5 _ 81 (0, 0) N2.out]; rfl
    have z6 : wr.cell? ⟨W4, 6, none⟩ = some (.bool false) := by rw [cell_of_row _ W4 6 _ 81 (0, 0) N2.out]; rfl
    have fz : ∀ o, wr.frozen? ⟨W4, o, none⟩ = false := fun o => by have := N2.out; simp [World.frozen?, this, zeros81]
    rcases Nat.eq_zero_or_pos r with hr | hr
    · subst hr
      obtain rfl : t = none := C2.out.1 rfl
      go_wp2
      have K7 := put_below (B := W4) B2.out W4 (Nat.le_refl _) (.pointer none) (.int .u64 0) (.int .u32 0) (.int .u8 0) (.int .u8 0) (.bool false) (.bool false)
      have R7 := put_cells N2.out (.pointer none) (.int .u64 0) (.int .u32 0) (.int .u8 0) (.int .u8 0) (.bool false) (.bool false)
      unfold put at K7 R7
      generalize ((((((wr.setCell ⟨W4, 0, none⟩ (.pointer none)).setCell ⟨W4, 1, none⟩ (.int .u64 0)).setCell ⟨W4, 2, none⟩ (.int .u32 0)).setCell ⟨W4, 3, none⟩ (.int .u8 0)).setCell ⟨W4, 4, none⟩ (.int .u8 0)).setCell ⟨W4, 5, none⟩ (.bool false)).setCell ⟨W4, 6, none⟩ (.bool false) = w5 at K7 R7 ⊢
      refine bodyPost_ret (v := .tuple #[decV none, .bool false]) ?_ rfl ?_
      · rw [results_cell_tmp rfl]
        exact ret_cell R7 _
      · exact ⟨rfl, by rw [← HW4.out]; exact K7⟩
    · obtain ⟨r', rfl⟩ : ∃ r', r = r' + 1 := ⟨r - 1, by omega⟩
      obtain ⟨k1, k2, k3⟩ := C2.out.2 r' rfl
      have hi0 : 0 < i := by omega
      have hr1 : (((r' + 1 : Nat) : Int) != 0) = true := by simp; omega
      have RC := toAside (record_any xB rb i cr db cd r' wr (X2.out.x2 hi0) (X2.out.r0 hi0) k1 X2.out.small)
      have TX := toAside (text_any xB ib ci ab (3 * i) ca (3 * r') (3 * r' + 3) wr (X2.out.x3 hi0) (X2.out.i0 hi0) (by omega) (by omega) X2.out.cap (World.block_lt_of_cell? wr _ (X2.out.x3 hi0)) (World.block_lt_of_cell? wr _ (X2.out.i0 hi0)))
      have d7 := X2.out.c7 r' k1
      have d8 := X2.out.c8 r' k1
      have d9 := X2.out.c9 r' k1
      rw [show ((r' + 1 : Nat) : Int) = (r' : Int) + 1 by omega] at hr1 ⊢
      clear hr k2 z0 z1 z2 z3 z4 z5 z6 fz
      go_wp2_with fail
      refine RC.out.mono ?_
      rintro e w' ⟨rfl, rfl⟩
      go_wp2_with fail
      refine TX.out.mono ?_
      rintro e w' ⟨rfl, q, hw'⟩
      have BL : RowKit.Below wr.heap.size wr w' := by
        rw [hw']
        have := (RowKit.Below.refl wr.heap.size wr).alloc (Nat.le_refl _) (.cells #[.int .u32 0, .int .u32 (3 * r' : Nat), .int .u32 (3 * r' + 3 : Nat)] 83)
        exact ⟨this.os, this.tape, this.output, this.size, this.block⟩
      have X3 := toAside (X2.out.below BL)
      have N3 : Aside (w'.heap[W4]? = some zeros81) := (BL.block _ S2.out).trans N2.out
      have S3 : Aside (W4 < w'.heap.size) := Nat.lt_of_lt_of_le S2.out BL.size
      have B3 : Aside (RowKit.Below W4 w w') := B2.out.trans ⟨BL.os, BL.tape, BL.output, BL.size, fun j hj => BL.block j (Nat.lt_trans hj S2.out)⟩
      clear BL hw' RC TX d7 d8 d9 X2 N2 S2 B2 q
      rw [show 3 * r' + 3 - 3 * r' = 3 by omega]
      have cv := run_convert_bytes_arg (P := Yba.prog) w' 53 5 Yba.underlying53 Yba.underlying5 ab (3 * r') 3 (ca - 3 * r') (idN r') rfl (fun t ht => X3.out.by0 r' k1 t ht) 9 Yba.underlying9
      change _ = Result.ok (Value.string (idS r')) w' at cv
      have d0 := X3.out.c0 r' k1
      have d1 := X3.out.c1 r' k1
      have d2 := X3.out.c2 r' k1
      have d3 := X3.out.c3 r' k1
      have d4 := X3.out.c4 r' k1
      have d5 := X3.out.c5 r' k1
      have d6 := X3.out.c6 r' k1
      have d10 := X3.out.c10 r' k1
      by_cases hs : idS r' = s
      · have ht : t = some r' := by
          cases t with
          | none => have := HA.out.1; rw [← hs] at this; have := congrArg ByteArray.size this; exact absurd this (by show ¬ (3 : Nat) = 2; omega)
          | some j => obtain ⟨g1, g2, g3⟩ := HA.out; rw [idS_inj (by have := X3.out.small; omega) (by have := X3.out.small; omega) (hs.trans g2)]
        have hs' : ((idS r').toList == s.toList) = true := by rw [hs]; exact beq_self_eq_true _
        have HS : Hid (idS r' = s) := hs
        clear hs
        have z0 : w'.cell? ⟨W4, 0, none⟩ = some (.pointer none) := by rw [cell_of_row _ W4 0 _ 81 (0, 0) N3.out]; rfl
        have z1 : w'.cell? ⟨W4, 1, none⟩ = some (.int .u64 0) := by rw [cell_of_row _ W4 1 _ 81 (0, 0) N3.out]; rfl
        have z2 : w'.cell? ⟨W4, 2, none⟩ = some (.int .u32 0) := by rw [cell_of_row _ W4 2 _ 81 (0, 0) N3.out]; rfl
        have z3 : w'.cell? ⟨W4, 3, none⟩ = some (.int .u8 0) := by rw [cell_of_row _ W4 3 _ 81 (0, 0) N3.out]; rfl
        have z4 : w'.cell? ⟨W4, 4, none⟩ = some (.int .u8 0) := by rw [cell_of_row _ W4 4 _ 81 (0, 0) N3.out]; rfl
        have z5 : w'.cell? ⟨W4, 5, none⟩ = some (.bool false) := by rw [cell_of_row _ W4 5 _ 81 (0, 0) N3.out]; rfl
        have z6 : w'.cell? ⟨W4, 6, none⟩ = some (.bool false) := by rw [cell_of_row _ W4 6 _ 81 (0, 0) N3.out]; rfl
        have fz : ∀ o, w'.frozen? ⟨W4, o, none⟩ = false := fun o => by have := N3.out; simp [World.frozen?, this, zeros81]
        generalize idS r' = S at cv hs'
        subst ht
        cases he : evp r' with
        | none =>
          rw [he] at d0
          simp only [evV] at d0
          go_wp2
          have K7 := put_below (B := W4) B3.out W4 (Nat.le_refl _) (.pointer none) (.int .u64 0) (.int .u32 0) (.int .u8 0) (.int .u8 0) (.bool false) (.bool false)
          have R7 := put_cells N3.out (.pointer none) (.int .u64 0) (.int .u32 0) (.int .u8 0) (.int .u8 0) (.bool false) (.bool false)
          unfold put at K7 R7
          generalize ((((((w'.setCell ⟨W4, 0, none⟩ (.pointer none)).setCell ⟨W4, 1, none⟩ (.int .u64 0)).setCell ⟨W4, 2, none⟩ (.int .u32 0)).setCell ⟨W4, 3, none⟩ (.int .u8 0)).setCell ⟨W4, 4, none⟩ (.int .u8 0)).setCell ⟨W4, 5, none⟩ (.bool false)).setCell ⟨W4, 6, none⟩ (.bool false) = w5 at K7 R7 ⊢
          refine bodyPost_ret (v := .tuple #[decV (none), .bool true]) ?_ rfl ?_
          · rw [results_cell_tmp rfl]
            exact ret_cell R7 _
          · refine ⟨?_, by rw [← HW4.out]; exact K7⟩
            show _ = Ending.returned (Value.tuple #[decV (evp r'), .bool true])
            rw [he]
        | some ev =>
          rw [he] at d0
          simp only [evV] at d0
          go_wp2
          have K7 := put_below (B := W4) B3.out W4 (Nat.le_refl _) (.pointer (some ⟨ev, 0, none⟩)) (.int .u64 0) (.int .u32 0) (.int .u8 0) (.int .u8 0) (.bool false) (.bool false)
          have R7 := put_cells N3.out (.pointer (some ⟨ev, 0, none⟩)) (.int .u64 0) (.int .u32 0) (.int .u8 0) (.int .u8 0) (.bool false) (.bool false)
          unfold put at K7 R7
          generalize ((((((w'.setCell ⟨W4, 0, none⟩ (.pointer (some ⟨ev, 0, none⟩))).setCell ⟨W4, 1, none⟩ (.int .u64 0)).setCell ⟨W4, 2, none⟩ (.int .u32 0)).setCell ⟨W4, 3, none⟩ (.int .u8 0)).setCell ⟨W4, 4, none⟩ (.int .u8 0)).setCell ⟨W4, 5, none⟩ (.bool false)).setCell ⟨W4, 6, none⟩ (.bool false) = w5 at K7 R7 ⊢
          refine bodyPost_ret (v := .tuple #[decV (some ev), .bool true]) ?_ rfl ?_
          · rw [results_cell_tmp rfl]
            exact ret_cell R7 _
          · refine ⟨?_, by rw [← HW4.out]; exact K7⟩
            show _ = Ending.returned (Value.tuple #[decV (evp r'), .bool true])
            rw [he]
      · have hs' : ((idS r').toList == s.toList) = false := by
          exact beq_eq_false_iff_ne.2 fun e => hs (bytes_ext e)
        have hne : ∀ j, t = some j → j ≠ r' := fun j e1 e2 => by subst e1 e2; exact hs HA.out.2.1.symm
        have CN := toAside (chain_next HA.out C2.out hne)
        have hsr : sameN r' < r' + 1 := by unfold sameN; split <;> omega
        clear hs hne
        generalize idS r' = S at cv hs'
        go_wp2
        go_roundg (sameN r')
        case measure => omega
        case rel => exact ⟨sameN r', rfl, Nat.le_refl _, CN, X3, N3, S3, B3⟩
end Go.Proofs.Ybulkxiu
