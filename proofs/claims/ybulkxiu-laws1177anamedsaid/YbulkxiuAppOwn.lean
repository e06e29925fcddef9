import Derived.Test.YbulkxiuOwn
namespace Go.Proofs.Ybulkxiu
open Go.RowKit
set_option maxRecDepth 100000

theorem info45 : (Yba.prog.info? 45).map (fun i => (i.zero, i.size, i.bytes)) = some (some (.int .u32 0), 1, 4) := by kernel_rfl
theorem news1 (x : Value) (w : World) (e : TypeId) (g : Nat) (hg : g = w.heap.size) : ∀ j u, [x][j]? = some u → (w.alloc (.cells #[x] e)).cell? ((⟨g, 0, none⟩ : Addr).add j) = some u := fun j u hu => by
  subst hg
  rw [show (⟨w.heap.size, 0, none⟩ : Addr).add j = ⟨w.heap.size, j, none⟩ by unfold Addr.add; split <;> simp_all]
  rw [cell_of_row _ w.heap.size j #[x] e (0, 0) (heap_alloc_new _ _)]
  simpa using hu

set_option maxHeartbeats 2000000 in
theorem appendOwn_any {w0 : World} {xB rb cr db cd ib ci ab ca mb nm i : Nat} {evp : Nat → Option Nat} {nd : Nat → Nat} (X : XMem w0 xB rb cr db cd ib ci ab ca mb nm i evp) (NM : NumMem w0 i evp nd)
    (evb n cap : Nat) (a : Option Addr) (cs : List (Option Nat)) (hev : w0.cell? ⟨evb, 9, none⟩ = some (.slice a n cap)) (hevb : evb < w0.heap.size) (CM : CiteMem w0 a cs) (hn : n = cs.length) (hn16 : n ≤ 16) (hcs : ∀ t j, cs.getD t none = some j → j < i)
    (gv v : Value) (l : List Nat) (par : Nat) (w : World) (bel : RowKit.Below w0.heap.size w0 w) (row : w.ownsRow w0.heap.size 45 1 v l.length (U32 l)) (hl : l.length ≤ 100000) :
    Calls Yba.prog 18 #[gv, v, .pointer (some ⟨evb, 0, none⟩), .int .u32 par, .pointer (some ⟨xB, 0, none⟩)] w fun e w' => ∃ v', e = .returned v' ∧ w'.ownsRow w0.heap.size 45 1 v' (l ++ ownL evp nd par cs).length (U32 (l ++ ownL evp nd par cs)) ∧ RowKit.Below w0.heap.size w0 w' := by
  have HX := toAside X
  have HN := toAside NM
  have HC := toAside CM
  have HCS := toAside hcs
  have HB := toAside bel
  have HR := toAside row
  have HNC : Hid (n = cs.length) := hn
  have q0 := (bel.cell (p := ⟨evb, 9, none⟩) hevb).trans hev
  have HQ := toAside hev
  clear X NM CM hcs bel row hn hev
  go_enter Yba.func18, Yba.ntmps18
  go_wp2
  go_loopg [1, 20] n (fun kx s1 s20 wr => ∃ t : Nat, s20 = .int .i64 t ∧ t ≤ n ∧ n - t ≤ kx ∧ Aside (wr.ownsRow w0.heap.size 45 1 s1 (l ++ ownL evp nd par (cs.take t)).length (U32 (l ++ ownL evp nd par (cs.take t)))) ∧ Aside (RowKit.Below w0.heap.size w0 wr))
  case atStart => exact ⟨0, rfl, Nat.zero_le _, by omega, by rw [List.take_zero, show ownL evp nd par [] = [] from rfl, List.append_nil]; exact HR, HB⟩
  case round =>
    clear HR HB q0
    obtain ⟨t, rfl, htn, hkx, HR, HB⟩ := hrel
    by_cases hlt : t < n
    · obtain ⟨b, o, rfl, hb, hs⟩ := HC.out t (by rw [← HNC.out]; exact hlt)
      have c0 := (HB.out.cell (p := ⟨b, o + t, none⟩) hb).trans hs
      have ht0 : (0 : Int) ≤ (t : Int) := by omega
      have ht1 : (t : Int) < (n : Int) := by omega
      obtain ⟨tg, htg⟩ : ∃ tg, tg = cs.getD t none := ⟨_, rfl⟩
      have HSN := toAside (ownL_snoc evp nd par cs t (by rw [← HNC.out]; exact hlt))
      rw [← htg] at c0 HSN
      have G := toAside (get_any (HX.out.below HB.out) (citeS tg) (citeC tg) tg (asks_cite fun j e => HCS.out t j (htg.symm.trans e)))
      have HTG : Aside (∀ j, tg = some j → j < i) := fun j e => HCS.out t j (htg.symm.trans e)
      clear htg hs
      go_wp2_with fail
      refine G.out.mono ?_
      rintro e w2 ⟨rfl, bl⟩
      have B2 : Aside (RowKit.Below w0.heap.size w0 w2) := HB.out.trans ⟨bl.os, bl.tape, bl.output, bl.size, fun j hj => bl.block j (by have := HB.out.size; omega)⟩
      have R2 : Aside (w2.ownsRow w0.heap.size 45 1 u1 (l ++ ownL evp nd par (cs.take t)).length (U32 (l ++ ownL evp nd par (cs.take t)))) := HR.out.kept (row := none) ⟨bl.os, bl.tape, bl.output, bl.size, fun j hj _ => bl.block j hj⟩ (by
        cases hv : u1.ownBlock with
        | none => exact Or.inl rfl
        | some _ => exact Or.inr (by simp))
      clear G bl HR HB c0
      cases tg with
      | none =>
        simp only [decV, evV, Option.bind_none, Option.isSome_none]
        have R3 := toAside (R2.out.alloc (.cells #[.pointer none, .int .u64 0, .int .u32 0, .int .u8 0, .int .u8 0, .bool false, .bool false] 81))
        have B3 := toAside (B2.out.alloc (by have := B2.out.size; exact this) (.cells #[.pointer none, .int .u64 0, .int .u32 0, .int .u8 0, .int .u8 0, .bool false, .bool false] 81))
        go_wp2
        go_roundg (n - (t + 1))
        case measure => omega
        case rel => exact ⟨t + 1, by go_num, by omega, Nat.le_refl _, (by rw [HSN.out, if_neg (by simp [nodeAt]), List.append_nil]; exact R3.out), B3⟩
      | some j =>
        have hji := HTG.out j rfl
        cases he : evp j with
        | none =>
          simp only [decV, Option.bind_some, he, evV, Option.isSome_some]
          have R3 := toAside (R2.out.alloc (.cells #[.pointer none, .int .u64 0, .int .u32 0, .int .u8 0, .int .u8 0, .bool false, .bool false] 81))
          have B3 := toAside (B2.out.alloc (by have := B2.out.size; exact this) (.cells #[.pointer none, .int .u64 0, .int .u32 0, .int .u8 0, .int .u8 0, .bool false, .bool false] 81))
          have HE : Hid (evp j = none) := he
          clear he
          go_wp2
          go_roundg (n - (t + 1))
          case measure => omega
          case rel => exact ⟨t + 1, by go_num, by omega, Nat.le_refl _, (by rw [HSN.out, if_neg (by simp [nodeAt, HE.out]), List.append_nil]; exact R3.out), B3⟩
        | some e =>
          simp only [decV, Option.bind_some, he, evV, Option.isSome_some]
          obtain ⟨m0, m1⟩ := HN.out j hji e he
          have R3 := toAside (R2.out.alloc (.cells #[.pointer (some ⟨e, 0, none⟩), .int .u64 0, .int .u32 0, .int .u8 0, .int .u8 0, .bool false, .bool false] 81))
          have B3 := toAside (B2.out.alloc (by have := B2.out.size; exact this) (.cells #[.pointer (some ⟨e, 0, none⟩), .int .u64 0, .int .u32 0, .int .u8 0, .int .u8 0, .bool false, .bool false] 81))
          have m2 := (B3.out.cell (p := ⟨e, 7, none⟩) m1).trans m0
          have HE : Hid (nodeAt evp nd (some j) = nd j) := (by simp [nodeAt, he] : nodeAt evp nd (some j) = nd j)
          clear he m0
          by_cases h0 : nd j = 0
          · rw [h0] at m2
            have H0 : Hid (nd j = 0) := h0
            clear h0
            go_wp2
            go_roundg (n - (t + 1))
            case measure => omega
            case rel => exact ⟨t + 1, by go_num, by omega, Nat.le_refl _, (by rw [HSN.out, if_neg (by rw [HE.out, H0.out]; simp), List.append_nil]; exact R3.out), B3⟩
          · by_cases hp : nd j = par
            · have b1 : ((nd j : Int) != 0) = true := by simp; omega
              have b2 : ((nd j : Int) != (par : Int)) = false := by simp; omega
              have H0 : Hid (nd j = par) := hp
              clear h0 hp
              go_wp2
              go_roundg (n - (t + 1))
              case measure => omega
              case rel => exact ⟨t + 1, by go_num, by omega, Nat.le_refl _, (by rw [HSN.out, if_neg (by rw [HE.out, H0.out]; simp), List.append_nil]; exact R3.out), B3⟩
            · have b1 : ((nd j : Int) != 0) = true := by simp; omega
              have b2 : ((nd j : Int) != (par : Int)) = true := by simp; omega
              have H0 : Aside (nd j ≠ 0 ∧ nd j ≠ par) := ⟨h0, hp⟩
              clear h0 hp
              have HSZ : Aside ((l ++ ownL evp nd par (cs.take t)).length ≤ 200000) := (by
                have := List.length_filter_le (fun x => x ≠ 0 && x ≠ par) ((cs.take t).map (nodeAt evp nd))
                rw [List.length_append]
                unfold ownL
                have h2 : ((cs.take t).map (nodeAt evp nd)).length ≤ 16 := by rw [List.length_map, List.length_take, ← HNC.out]; omega
                omega : (l ++ ownL evp nd par (cs.take t)).length ≤ 200000)
              have HBW : Aside (w0.heap.size ≤ (w2.alloc (.cells #[.pointer (some ⟨e, 0, none⟩), .int .u64 0, .int .u32 0, .int .u8 0, .int .u8 0, .bool false, .bool false] 81)).heap.size) := B3.out.size
              obtain ⟨i0, qi, qz0, qz1, qz2⟩ := info_parts info45
              have hi := toAside qi
              have hz0 := toAside qz0
              have hz1 := toAside qz1
              have hz2 := toAside qz2
              clear qi qz0 qz1 qz2
              go_wp2_with (at_builtin; refine wpList_append_lies _ rfl (.tmp 53) (.tmp 59) 41 rfl w0.heap.size 45 i0 _ 1 4 Yba.underlying41 hi.out hz0.out hz1.out hz2.out rfl (by decide) _ _ _ rfl (R3.out.alloc _) ⟨_, 0, none⟩ 1 1 [.int .u32 (nd j)] rfl rfl (news1 _ _ _ _ (by simp)) (by intro u hu; simp at hu; subst hu; rfl) (by omega) (by unfold maxLen; have := HSZ.out; omega) (by have := HSZ.out; omega) (by have := HBW.out; simp at this ⊢; omega) _ rfl ?_; intro g4 c4 w4 ho4 hgr4 hat4 hlt4; have B4 : Aside (RowKit.Below w0.heap.size w0 w4) := (B3.out.alloc HBW.out _).grown hgr4 (by have := HBW.out; simp at this ⊢; omega) (fun j hj => (R3.out.lt j hj).1); have R4 := toAside ho4; clear ho4 hgr4 hat4 hlt4)
              go_roundg (n - (t + 1))
              case measure => omega
              case rel =>
                refine ⟨t + 1, by go_num, by omega, Nat.le_refl _, ?_, B4⟩
                rw [HSN.out, HE.out, if_pos H0.out, ← List.append_assoc, List.length_append]
                have := R4.out
                unfold U32 at this ⊢
                rw [List.map_append]
                rw [List.length_append] at this ⊢
                exact this
    · obtain rfl : t = n := by omega
      have ht' : ¬ (t : Int) < (t : Int) := by omega
      go_wp2
      go_ret
      refine ⟨u1, rfl, ?_, HB.out⟩
      have := HR.out
      rw [HNC.out, List.take_length, List.length_append] at this
      exact this
end Go.Proofs.Ybulkxiu
