import Derived.Test.YbulkxiuAddR
import Derived.Deep.RegionLaw
import Derived.Deep.RegionHeld3
namespace Go.Proofs.Ybulkxiu
open Go.RowKit
set_option maxRecDepth 100000

set_option maxHeartbeats 4000000 in
theorem add_any {B0 : Nat} {w : World} {tg : Nat → Nat} {gB : Nat} {nv : Value} {mp : Option Nat} {G : PG} {cv : Nat → Value} {cb : Nat → List Nat} {cs : Nat → List (Option Nat)} {i : Nat} {nm : Nat → List Nat} (g : GI B0 w tg gB nv mp G cv cb cs i nm)
    {xB rb cr db cd ib ci ab ca mbx nmx : Nat} {evp : Nat → Option Nat} {nd : Nat → Nat} (X : XMem w xB rb cr db cd ib ci ab ca mbx nmx i evp) (XT : XTag tg xB rb db ib ab mbx i) (NT : NumT w tg i evp nd G)
    (evb : Nat) (ty ky : Bool) (c : List (Option Nat)) (ev : EvMem w tg evb 0 ty ky c i) (evt : tg evb = 46 + 8 * G.n) (evB : B0 ≤ evb) (hn : G.n + 1 ≤ 512) (hcb : ∀ k, (cb k).length ≤ 10000) (hcbn : cb G.n = []) (hB0 : B0 ≤ w.heap.size) :
    Calls Yba.prog 11 #[.pointer (some ⟨gB, 0, none⟩), .pointer (some ⟨evb, 0, none⟩), .pointer (some ⟨xB, 0, none⟩)] w fun e w' => e = .returned (.tuple #[]) ∧
      ∃ tg' nv' mp' cv' nm', GI B0 w' tg' gB nv' mp' (addG G evb ty ky (parL G ty ky (c.map (nodeAt evp nd)))) cv' (cbL (G.n + 1) cb (c.map (nodeAt evp nd))) (upd cs G.n c) i nm' ∧ Fr (fun T => T % 4 = 2) w tg w' tg' ∧ (∀ k, k < G.n → nm' k = nm k) ∧ (passG (addG G evb ty ky (parL G ty ky (c.map (nodeAt evp nd)))) G.n = true → NamR evp nd G cs nm c (parL G ty ky (c.map (nodeAt evp nd))) (nm' G.n)) := by
  obtain ⟨na, nc, hnv, hnc, _⟩ := g.nodes.form
  obtain ⟨ga, g1, g2, g3⟩ := g.gblk
  obtain ⟨ea, ad, ec, e1, e2, e3, e4, e5, e6, e7, e8⟩ := ev
  have c0 : w.cell? ⟨gB, 0, none⟩ = some (.slice na G.n nc) := by rw [cell_of_row w gB 0 ga 39 (0, 0) g1, g2, hnv]
  have c7 := EvMem.cellAt e1 e4
  have c9 := EvMem.cellAt e1 e5
  have f7 : w.frozen? ⟨evb, 7, none⟩ = false := frozen_of_row w evb 7 ea 56 e1
  have hwn : IntKind.u32.wrap ((G.n : Int) + 1) = (G.n : Int) + 1 := by rw [IntKind.wrap_u32]; omega
  have hel : evb < w.heap.size := (Array.getElem?_eq_some_iff.1 e1).1
  have hgl : gB < w.heap.size := (Array.getElem?_eq_some_iff.1 g1).1
  have EV : Aside (EvMem w tg evb 0 ty ky c i) := ⟨ea, ad, ec, e1, e2, e3, e4, e5, e6, e7, e8⟩
  have E8 := toAside e8
  have HG := toAside g
  have HX := toAside X
  have HXT := toAside XT
  have HNT := toAside NT
  clear e1 e2 e3 e4 e5 e7 e8 g1 g2 g3 g X XT NT
  go_enter Yba.func11, Yba.ntmps11
  go_wp2
  have A0 : Aside (AddSt B0 w tg gB nv mp G cb cs i nm evb ty ky c [] #[.pointer (some ⟨evb, 0, none⟩), .slice none 0 0, .int .u32 0, .int .u32 0, .int .u32 0, .int .u32 0] ((w.setCell ⟨evb, 7, none⟩ (.int .u32 ((G.n : Int) + 1))).alloc (.cells #[.pointer (some ⟨evb, 0, none⟩), .slice none 0 0, .int .u32 0, .int .u32 0, .int .u32 0, .int .u32 0] 49)) (nT tg w.heap.size 18) cv) := by
    have f1 : Fr (fun T => T = 46 + 8 * G.n) w tg (w.setCell ⟨evb, 7, none⟩ (.int .u32 ((G.n + 1 : Nat) : Int))) tg := Fr.of_set _ _ _ _ evt
    have hsz : (w.setCell ⟨evb, 7, none⟩ (.int .u32 ((G.n + 1 : Nat) : Int))).heap.size = w.heap.size := by simp
    have f2 := Fr.of_alloc (fun _ => False) (w.setCell ⟨evb, 7, none⟩ (.int .u32 ((G.n + 1 : Nat) : Int))) tg (.cells #[.pointer (some ⟨evb, 0, none⟩), .slice none 0 0, .int .u32 0, .int .u32 0, .int .u32 0, .int .u32 0] 49) 18
    rw [hsz] at f2
    have ev1 := EV.out.num (G.n + 1) (by rw [evt]; omega)
    refine ⟨?_, ev1.fr f2 (fun q => q) (fun q => q), ?_, ?_, ?_, ?_⟩
    · exact (HG.out.fr f1 (fun T q => ⟨by omega, by omega, by omega, by omega, fun k _ => by omega⟩)).fr f2 (fun _ q => q.elim)
    · rw [nT_lt _ _ _ _ hel]; exact evt
    · exact (f1.mono fun _ q => by omega).trans (f2.mono fun _ q => q.elim)
    · rw [← hsz]; exact heap_alloc_new _ _
    · exact nT_ge _ _ _ _ (Nat.le_refl _)
  have HNL : Aside (∀ x ∈ c.map (nodeAt evp nd), x ≤ G.n) := HNT.out.le (by obtain ⟨_, _, _, _, _, _, _, _, _, h, _⟩ := EV.out; exact h)
  clear c0 c7 c9 f7 hnv
  go_loopg [34] c.length (fun kx s34 wr => ∃ (t : Nat) (tgr : Nat → Nat) (cvr : Nat → Value), s34 = .int .i64 t ∧ t ≤ c.length ∧ c.length - t ≤ kx ∧ Aside (AddSt B0 w tg gB nv mp G cb cs i nm evb ty ky c ((c.map (nodeAt evp nd)).take t) #[.pointer (some ⟨evb, 0, none⟩), .slice none 0 0, .int .u32 (parL G ty ky ((c.map (nodeAt evp nd)).take t)), .int .u32 0, .int .u32 0, .int .u32 0] wr tgr cvr))
  case atStart => exact ⟨0, _, cv, rfl, Nat.zero_le _, by omega, A0⟩
  case round =>
    clear A0
    obtain ⟨t, tgr, cvr, rfl, htn, hkx, ST⟩ := hrel
    by_cases hlt : t < c.length
    · have ht0 : (0 : Int) ≤ (t : Int) := by omega
      have ht1 : (t : Int) < (c.length : Int) := by omega
      obtain ⟨o, ho⟩ : ∃ o, o = c.getD t none := ⟨_, rfl⟩
      have HTK : Aside ((c.map (nodeAt evp nd)).take (t + 1) = (c.map (nodeAt evp nd)).take t ++ [nodeAt evp nd o]) := (by rw [ho]; exact map_take_succ c _ t hlt : (c.map (nodeAt evp nd)).take (t + 1) = (c.map (nodeAt evp nd)).take t ++ [nodeAt evp nd o])
      have HO : Aside (∀ j, o = some j → j < i) := fun j e => by obtain ⟨_, _, _, _, _, _, _, _, _, h, _⟩ := EV.out; exact h t j (ho.symm.trans e)
      obtain ⟨b, of, had, hbt, hs⟩ := E8.out t hlt
      subst had
      have c0 : wr.cell? ⟨b, of + t, none⟩ = some (.string (citeS o)) := by rw [ho]; exact ST.out.fr.cell hs (by show ¬ tg b % 4 = 2; rw [hbt]; omega)
      obtain ⟨X1, XT1⟩ := HX.out.fr HXT.out ST.out.fr (fun T q => by omega)
      have GT := toAside (get_any X1 (citeS o) (citeC o) o (asks_cite HO.out))
      clear hs hbt X1 XT1 ho
      go_wp2_with fail
      refine GT.out.mono ?_
      rintro e w2 ⟨rfl, bl⟩
      have S2 : Aside (∃ tg2, AddSt B0 w tg gB nv mp G cb cs i nm evb ty ky c ((c.map (nodeAt evp nd)).take t) #[.pointer (some ⟨evb, 0, none⟩), .slice none 0 0, .int .u32 (parL G ty ky ((c.map (nodeAt evp nd)).take t)), .int .u32 0, .int .u32 0, .int .u32 0] w2 tg2 cvr) := ⟨_, ST.out.fr0 (Fr.of_below _ tgr 18 bl)⟩
      clear GT bl c0 ST
      cases o with
      | none =>
        simp only [decV, evV, Option.bind_none, Option.isSome_none]
        have S3 : Aside (∃ tg3, AddSt B0 w tg gB nv mp G cb cs i nm evb ty ky c ((c.map (nodeAt evp nd)).take t) #[.pointer (some ⟨evb, 0, none⟩), .slice none 0 0, .int .u32 (parL G ty ky ((c.map (nodeAt evp nd)).take t)), .int .u32 0, .int .u32 0, .int .u32 0] (w2.alloc (.cells #[.pointer none, .int .u64 0, .int .u32 0, .int .u8 0, .int .u8 0, .bool false, .bool false] 81)) tg3 cvr) := by obtain ⟨tg2, s2⟩ := S2.out; exact ⟨_, s2.fr0 (Fr.of_alloc _ w2 tg2 _ 18)⟩
        go_wp2
        go_roundg (c.length - (t + 1))
        case measure => omega
        case rel =>
          obtain ⟨tg3, s3⟩ := S3.out
          refine ⟨t + 1, tg3, cvr, by go_num, by omega, Nat.le_refl _, ?_⟩
          rw [HTK.out, show nodeAt evp nd none = 0 from rfl, parL_snoc]
          exact s3.skip
      | some j =>
        have hji := HO.out j rfl
        cases he : evp j with
        | none =>
          simp only [decV, Option.bind_some, he, evV, Option.isSome_some]
          have HE : Hid (nodeAt evp nd (some j) = 0) := (by simp [nodeAt, he] : nodeAt evp nd (some j) = 0)
          clear he
          have S3 : Aside (∃ tg3, AddSt B0 w tg gB nv mp G cb cs i nm evb ty ky c ((c.map (nodeAt evp nd)).take t) #[.pointer (some ⟨evb, 0, none⟩), .slice none 0 0, .int .u32 (parL G ty ky ((c.map (nodeAt evp nd)).take t)), .int .u32 0, .int .u32 0, .int .u32 0] (w2.alloc (.cells #[.pointer none, .int .u64 0, .int .u32 0, .int .u8 0, .int .u8 0, .bool false, .bool false] 81)) tg3 cvr) := by obtain ⟨tg2, s2⟩ := S2.out; exact ⟨_, s2.fr0 (Fr.of_alloc _ w2 tg2 _ 18)⟩
          go_wp2
          go_roundg (c.length - (t + 1))
          case measure => omega
          case rel =>
            obtain ⟨tg3, s3⟩ := S3.out
            refine ⟨t + 1, tg3, cvr, by go_num, by omega, Nat.le_refl _, ?_⟩
            rw [HTK.out, HE.out, parL_snoc]
            exact s3.skip
        | some e =>
          simp only [decV, Option.bind_some, he, evV, Option.isSome_some]
          have HE : Hid (nodeAt evp nd (some j) = nd j) := (by simp [nodeAt, he] : nodeAt evp nd (some j) = nd j)
          rcases HNT.out j hji e he with ⟨h0, h1, h2⟩ | ⟨h0, h1, h2⟩
          · have m0 : w2.cell? ⟨e, 7, none⟩ = some (.int .u32 0) := by
              obtain ⟨tg2, s2⟩ := S2.out
              exact s2.fr.cell h2 (by show ¬ tg e % 4 = 2; rw [h1]; omega)
            have me : e < w2.heap.size := World.block_lt_of_cell? w2 _ m0
            have H0 : Hid (nd j = 0) := h0
            clear he h0 h1 h2
            have S3 : Aside (∃ tg3, AddSt B0 w tg gB nv mp G cb cs i nm evb ty ky c ((c.map (nodeAt evp nd)).take t) #[.pointer (some ⟨evb, 0, none⟩), .slice none 0 0, .int .u32 (parL G ty ky ((c.map (nodeAt evp nd)).take t)), .int .u32 0, .int .u32 0, .int .u32 0] (w2.alloc (.cells #[.pointer (some ⟨e, 0, none⟩), .int .u64 0, .int .u32 0, .int .u8 0, .int .u8 0, .bool false, .bool false] 81)) tg3 cvr) := by obtain ⟨tg2, s2⟩ := S2.out; exact ⟨_, s2.fr0 (Fr.of_alloc _ w2 tg2 _ 18)⟩
            go_wp2
            go_roundg (c.length - (t + 1))
            case measure => omega
            case rel =>
              obtain ⟨tg3, s3⟩ := S3.out
              refine ⟨t + 1, tg3, cvr, by go_num, by omega, Nat.le_refl _, ?_⟩
              rw [HTK.out, HE.out, H0.out, parL_snoc]
              exact s3.skip
          · obtain ⟨q, hq⟩ : ∃ q, nd j = q + 1 := ⟨nd j - 1, by omega⟩
            have hqn : q < G.n := by omega
            rw [hq, Nat.add_sub_cancel] at h2
            subst h2
            have HQ : Hid (nodeAt evp nd (some j) = q + 1) := HE.out.trans hq
            clear he h0 h1 hq HE
            obtain ⟨tg2, s2⟩ := S2.out
            have hnbW := s2.nb
            have S3 := toAside (s2.fr0 (Fr.of_alloc _ w2 tg2 (.cells #[.pointer (some ⟨G.ev q, 0, none⟩), .int .u64 0, .int .u32 0, .int .u8 0, .int .u8 0, .bool false, .bool false] 81) 18))
            clear S2 s2
            obtain ⟨nb, cn, hnv, M3, _⟩ := S3.out.g.gmem (by omega)
            have HNV : Hid (nv = .slice (some ⟨nb, 0, none⟩) G.n cn) := hnv
            have m0 : (w2.alloc (.cells #[.pointer (some ⟨G.ev q, 0, none⟩), .int .u64 0, .int .u32 0, .int .u8 0, .int .u8 0, .bool false, .bool false] 81)).cell? ⟨G.ev q, 7, none⟩ = some (.int .u32 ((q : Int) + 1)) := M3.nd q hqn
            have N1 := toAside (node_any gB nb G.n cn q (G.ev q) _ M3.g0 hqn S3.out.g.wf.small m0)
            clear hnv M3
            go_wp2_with fail
            refine N1.out.mono ?_
            rintro e w3 ⟨rfl, q1, rfl⟩
            obtain ⟨w4, hw4⟩ : ∃ W, W = (w2.alloc (.cells #[.pointer (some ⟨G.ev q, 0, none⟩), .int .u64 0, .int .u32 0, .int .u8 0, .int .u8 0, .bool false, .bool false] 81)).drewN q1 := ⟨_, rfl⟩
            have S4 : Aside (AddSt B0 w tg gB nv mp G cb cs i nm evb ty ky c ((c.map (nodeAt evp nd)).take t) #[.pointer (some ⟨evb, 0, none⟩), .slice none 0 0, .int .u32 (parL G ty ky ((c.map (nodeAt evp nd)).take t)), .int .u32 0, .int .u32 0, .int .u32 0] w4 (nT tg2 w2.heap.size 18) cvr) := by
              rw [hw4]; exact toAside (S3.out.fr0 ⟨rfl, rfl, rfl, Nat.le_refl _, fun _ _ => rfl, fun _ _ _ => rfl⟩)
            have k0 : w4.cell? ⟨w2.heap.size, 0, none⟩ = some (.pointer (some ⟨G.ev q, 0, none⟩)) := by
              rw [hw4]; show (w2.alloc (.cells #[.pointer (some ⟨G.ev q, 0, none⟩), .int .u64 0, .int .u32 0, .int .u8 0, .int .u8 0, .bool false, .bool false] 81)).cell? _ = _
              rw [cell_of_row _ w2.heap.size 0 _ 81 (0, 0) (heap_alloc_new _ _)]; rfl
            rw [← hw4]
            have hwt : w2.heap.size < w4.heap.size := World.block_lt_of_cell? w4 _ k0
            have htW : nT tg2 w2.heap.size 18 w2.heap.size = 18 := nT_ge _ _ _ _ (Nat.le_refl _)
            have hwW : w2.heap.size ≠ w.heap.size := by have h1 := (Array.getElem?_eq_some_iff.1 hnbW).1; omega
            clear hnbW
            generalize hB : w2.heap.size = wB at *
            generalize htg4 : nT tg2 wB 18 = tg4 at *
            clear htg4 hw4 S3 m0 N1 hB
            obtain ⟨nb', cn', hnv', M4, tnb, _, hnbl, _⟩ := S4.out.g.gmem (by omega)
            obtain ⟨rfl, rfl⟩ : nb' = nb ∧ cn' = cn := by
              have := hnv'.symm.trans HNV.out; simpa using this
            have HM4 := toAside M4
            obtain ⟨_, _, _, ev1, _, _, ev4, _⟩ := S4.out.ev
            have k1 : w4.cell? ⟨nb', q * 6 + 1, none⟩ = some (cvr q) := by
              obtain ⟨a, c', x1, _, x2⟩ := S4.out.g.nodes.form
              obtain ⟨g', rfl, _, _, _, x3, _⟩ := x2 (by omega)
              have : g' = nb' := by have := x1.symm.trans HNV.out; simp at this; exact this.1
              rw [← this, x3 _ (by omega), nodeC_1]
            have k2 : w4.cell? ⟨evb, 7, none⟩ = some (.int .u32 ((G.n : Int) + 1)) := EvMem.cellAt ev1 ev4
            have k3 : w4.frozen? ⟨nb', q * 6 + 1, none⟩ = false := by
              obtain ⟨a, c', x1, _, x2⟩ := S4.out.g.nodes.form
              obtain ⟨g', rfl, _, _, _, _, x3⟩ := x2 (by omega)
              have : g' = nb' := by have := x1.symm.trans HNV.out; simp at this; exact this.1
              rw [← this]; exact x3 _
            have hlen : Aside ((cbL (G.n + 1) cb ((c.map (nodeAt evp nd)).take t) q).length ≤ 20000) := (by
              have h1 := cbL_len (G.n + 1) ((c.map (nodeAt evp nd)).take t) cb 10000 hcb q
              have h2 : ((c.map (nodeAt evp nd)).take t).length ≤ 16 := by rw [List.length_take, List.length_map]; omega
              omega : (cbL (G.n + 1) cb ((c.map (nodeAt evp nd)).take t) q).length ≤ 20000)
            have HB4 : Aside (B0 ≤ w4.heap.size) := Nat.le_trans hB0 S4.out.fr.size
            obtain ⟨i0, qi, qz0, qz1, qz2⟩ := info_parts info45
            have hi := toAside qi
            have hz0 := toAside qz0
            have hz1 := toAside qz1
            have hz2 := toAside qz2
            have tnb' : tg4 nb' = 6 := tnb
            have evt4 : tg4 evb = 46 + 8 * G.n := S4.out.evt
            have hevl : evb < w4.heap.size := World.block_lt_of_cell? w4 _ k2
            clear qi qz0 qz1 qz2 hnv' M4 tnb ev1 ev4
            have RW : Aside (RowF B0 (w4.alloc (.cells #[.int .u32 ((G.n : Int) + 1)] 45)).drew (nT tg4 w4.heap.size 18) (42 + 8 * q) 45 1 (cvr q) (cbL (G.n + 1) cb ((c.map (nodeAt evp nd)).take t) q).length (u32F (cbL (G.n + 1) cb ((c.map (nodeAt evp nd)).take t) q))) := by
              have h := (S4.out.g.cited q hqn).fr (Fr.of_alloc (fun _ => False) w4 tg4 (.cells #[.int .u32 ((G.n : Int) + 1)] 45) 18) (fun h => h)
              exact toAside (h.drewN 1)
            go_wp2_with fail
            go_region_law (refine step_rowF (by rfl) _ _ _ (by rfl) i0 _ 4 Yba.underlying41 hi.out hz0.out hz1.out hz2.out rfl (by decide) (by rfl) RW.out ⟨w4.heap.size, 0, none⟩ 1 [.int .u32 ((G.n : Int) + 1)] (by rfl) rfl (World.news_of_block (cs := #[.int .u32 ((G.n : Int) + 1)]) (t := 45) (fr := (0, 0)) (heap_alloc_new w4 _)) (snoc_news _ rfl) (by have := hlen.out; unfold maxLen; omega) (by have := hlen.out; omega) (by have := HB4.out; simp; omega) (u32F (cbL (G.n + 1) cb ((c.map (nodeAt evp nd)).take t) q ++ [G.n + 1])) (u32F_old _ _) (u32F_new _ _) ?_; intro gg cap5 w5 hrow5 hfr5; have k5 : w5.cell? ⟨nb', q * 6 + 1, none⟩ = some (cvr q) := hfr5.cell (keepCell k1) (by show ¬ (nT tg4 w4.heap.size 18 nb' = 42 + 8 * q); rw [nT_lt _ _ _ _ hnbl, tnb']; omega); have k6 : w5.frozen? ⟨nb', q * 6 + 1, none⟩ = false := (World.frozen?_of_block (hfr5.block nb' (Nat.lt_of_lt_of_le hnbl (World.grownBy_alloc w4 (.cells #[.int .u32 ((G.n : Int) + 1)] 45) none).size) (by show ¬ (nT tg4 w4.heap.size 18 nb' = 42 + 8 * q); rw [nT_lt _ _ _ _ hnbl, tnb']; omega))).trans (keepFrozen k3 hnbl))
            all_goals
              obtain ⟨tg5, S6⟩ : ∃ tg5, Aside (AddSt B0 w tg gB nv mp G cb cs i nm evb ty ky c ((c.map (nodeAt evp nd)).take t ++ [q + 1]) #[.pointer (some ⟨evb, 0, none⟩), .slice none 0 0, .int .u32 (parL G ty ky ((c.map (nodeAt evp nd)).take t)), .int .u32 0, .int .u32 0, .int .u32 0] (w5.setCell ⟨nb', q * 6 + 1, none⟩ (.slice (some ⟨gg, 0, none⟩) ((cbL (G.n + 1) cb ((c.map (nodeAt evp nd)).take t) q).length + 1) cap5)) tg5 (upd cvr q (.slice (some ⟨gg, 0, none⟩) ((cbL (G.n + 1) cb ((c.map (nodeAt evp nd)).take t) q).length + 1) cap5)) ∧ (w5.setCell ⟨nb', q * 6 + 1, none⟩ (.slice (some ⟨gg, 0, none⟩) ((cbL (G.n + 1) cb ((c.map (nodeAt evp nd)).take t) q).length + 1) cap5)).cell? ⟨wB, 0, none⟩ = some (.pointer (some ⟨G.ev q, 0, none⟩))) := by
                have F := ((Fr.of_alloc (fun T => T = 42 + 8 * q) w4 tg4 (.cells #[.int .u32 ((G.n : Int) + 1)] 45) 18).drewN 1).trans hfr5
                refine ⟨_, S4.out.cite hqn F (by unfold RowL; rw [List.length_append]; exact hrow5) HNV.out, ?_⟩
                have h1 := F.cell k0 (by show ¬ (tg4 wB = 42 + 8 * q); rw [htW]; omega)
                refine (World.cell?_of_block (heap_setCell_other w5 ⟨nb', q * 6 + 1, none⟩ wB _ ?_)).trans h1
                intro e
                have e2 : tg4 wB = tg4 nb' := congrArg tg4 e
                rw [htW, tnb'] at e2; omega
              obtain ⟨w6, hw6⟩ : ∃ W, W = w5.setCell ⟨nb', q * 6 + 1, none⟩ (.slice (some ⟨gg, 0, none⟩) ((cbL (G.n + 1) cb ((c.map (nodeAt evp nd)).take t) q).length + 1) cap5) := ⟨_, rfl⟩
              rw [← hw6] at S6 ⊢
              have j0 := S6.out.2
              have HWB : Aside (wB < w6.heap.size ∧ wB ≠ w.heap.size) := ⟨World.block_lt_of_cell? w6 _ j0, hwW⟩
              obtain ⟨nb2, cn2, _, M6, _⟩ := S6.out.1.g.gmem (by omega)
              obtain ⟨_, _, _, v1, v2, v3, v4, _⟩ := S6.out.1.ev
              have j1 := M6.ty q hqn
              have j2 := M6.ky q hqn
              have j3 := EvMem.cellAt v1 v2
              have j4 := EvMem.cellAt v1 v3
              have j5 : w6.cell? ⟨G.ev q, 7, none⟩ = some (.int .u32 ((q : Int) + 1)) := M6.nd q hqn
              have j6 : w6.cell? ⟨w.heap.size, 2, none⟩ = some (.int .u32 (parL G ty ky ((c.map (nodeAt evp nd)).take t))) := by rw [cell_of_row w6 w.heap.size 2 _ 49 (0, 0) S6.out.1.nb]; rfl
              have j7 : w6.frozen? ⟨w.heap.size, 2, none⟩ = false := frozen_of_row w6 w.heap.size 2 _ 49 S6.out.1.nb
              generalize hU : upd cvr q (.slice (some ⟨gg, 0, none⟩) ((cbL (G.n + 1) cb ((c.map (nodeAt evp nd)).take t) q).length + 1) cap5) = cv6 at S6
              clear hrow5 hfr5 k5 k6 hw6 v1 v2 v3 v4 M6 S4 RW k0 k1 k2 k3 HM4 hU
              by_cases h1 : G.ty q = ty
              · have t1 : ((tyS (G.ty q)).toList == (tyS ty).toList) = true := by rw [tyS_eq, h1]; simp
                by_cases h2 : G.ky q = ky
                · have t2 : ((kyS (G.ky q)).toList == (kyS ky).toList) = true := by rw [kyS_eq, h2]; simp
                  have HP : Aside (parStep G ty ky (parL G ty ky ((c.map (nodeAt evp nd)).take t)) (q + 1) = q + 1) := (if_pos ⟨by omega, by rw [Nat.add_sub_cancel]; exact h1, by rw [Nat.add_sub_cancel]; exact h2⟩ : parStep G ty ky (parL G ty ky ((c.map (nodeAt evp nd)).take t)) (q + 1) = q + 1)
                  clear h1 h2
                  go_wp2_with fail
                  go_quiet (fail)
                  go_wp2
                  go_roundg (c.length - (t + 1))
                  case measure => omega
                  case rel =>
                    refine ⟨t + 1, tg5, cv6, by go_num, by omega, Nat.le_refl _, ?_⟩
                    rw [HTK.out, HQ.out, parL_snoc, HP.out]
                    exact toAside ((S6.out.1.fr0 (w' := w6.drewN nq) ⟨rfl, rfl, rfl, Nat.le_refl _, fun _ _ => rfl, fun _ _ _ => rfl⟩).set2 (.int .u32 ((q + 1 : Nat) : Int)))
                · have t2 : ((kyS (G.ky q)).toList == (kyS ky).toList) = false := by rw [kyS_eq]; simpa using h2
                  have HP : Aside (parStep G ty ky (parL G ty ky ((c.map (nodeAt evp nd)).take t)) (q + 1) = parL G ty ky ((c.map (nodeAt evp nd)).take t)) := (if_neg (fun x => h2 (by have := x.2.2; rw [Nat.add_sub_cancel] at this; exact this)) : parStep G ty ky (parL G ty ky ((c.map (nodeAt evp nd)).take t)) (q + 1) = parL G ty ky ((c.map (nodeAt evp nd)).take t))
                  clear h1 h2
                  go_wp2_with fail
                  go_quiet (fail)
                  go_wp2
                  go_roundg (c.length - (t + 1))
                  case measure => omega
                  case rel =>
                    refine ⟨t + 1, tg5, cv6, by go_num, by omega, Nat.le_refl _, ?_⟩
                    rw [HTK.out, HQ.out, parL_snoc, HP.out]
                    exact toAside (S6.out.1.fr0 ⟨rfl, rfl, rfl, Nat.le_refl _, fun _ _ => rfl, fun _ _ _ => rfl⟩)
              · have t1 : ((tyS (G.ty q)).toList == (tyS ty).toList) = false := by rw [tyS_eq]; simpa using h1
                have HP : Aside (parStep G ty ky (parL G ty ky ((c.map (nodeAt evp nd)).take t)) (q + 1) = parL G ty ky ((c.map (nodeAt evp nd)).take t)) := (if_neg (fun x => h1 (by have := x.2.1; rw [Nat.add_sub_cancel] at this; exact this)) : parStep G ty ky (parL G ty ky ((c.map (nodeAt evp nd)).take t)) (q + 1) = parL G ty ky ((c.map (nodeAt evp nd)).take t))
                clear h1
                go_wp2_with fail
                go_quiet (fail)
                go_wp2
                go_roundg (c.length - (t + 1))
                case measure => omega
                case rel =>
                  refine ⟨t + 1, tg5, cv6, by go_num, by omega, Nat.le_refl _, ?_⟩
                  rw [HTK.out, HQ.out, parL_snoc, HP.out]
                  exact toAside (S6.out.1.fr0 ⟨rfl, rfl, rfl, Nat.le_refl _, fun _ _ => rfl, fun _ _ _ => rfl⟩)
    · obtain rfl : t = c.length := by omega
      have ht' : ¬ (c.length : Int) < (c.length : Int) := by omega
      obtain ⟨N, hN⟩ : ∃ N, N = c.map (nodeAt evp nd) := ⟨_, rfl⟩
      have hNl : N.length = c.length := by rw [hN, List.length_map]
      have S0 : Aside (AddSt B0 w tg gB nv mp G cb cs i nm evb ty ky c N #[.pointer (some ⟨evb, 0, none⟩), .slice none 0 0, .int .u32 (parL G ty ky N), .int .u32 0, .int .u32 0, .int .u32 0] wr tgr cvr) := by
        have h := ST.out
        rw [← hN, ← hNl, List.take_length] at h
        exact h
      have HN : Hid (N = c.map (nodeAt evp nd)) := hN
      have hple : parL G ty ky N ≤ G.n := parL_le G ty ky G.n N (by rw [hN]; exact HNL.out)
      have HCB : Aside (cbL (G.n + 1) cb N G.n = []) := ((cbFold_far (G.n + 1) G.n N cb (by rw [hN]; exact HNL.out) G.n (Nat.le_refl _)).trans hcbn : cbL (G.n + 1) cb N G.n = [])
      clear ST hN
      obtain ⟨p, hpe⟩ : ∃ p, p = parL G ty ky N := ⟨_, rfl⟩
      have HPE : Hid (p = parL G ty ky N) := hpe
      rw [← hpe] at S0 hple
      clear hpe
      have z4 : wr.cell? ⟨w.heap.size, 4, none⟩ = some (.int .u32 0) := by rw [cell_of_row wr w.heap.size 4 _ 49 (0, 0) S0.out.nb]; rfl
      have zf : ∀ o, wr.frozen? ⟨w.heap.size, o, none⟩ = false := fun o => frozen_of_row wr w.heap.size o _ 49 S0.out.nb
      have ze : wr.cell? ⟨evb, 7, none⟩ = some (.int .u32 ((G.n : Int) + 1)) := by
        obtain ⟨_, _, _, v1, _, _, v4, _⟩ := S0.out.ev
        exact EvMem.cellAt v1 v4
      have z2 : wr.cell? ⟨w.heap.size, 2, none⟩ = some (.int .u32 (p : Int)) := by rw [cell_of_row wr w.heap.size 2 _ 49 (0, 0) S0.out.nb]; rfl
      have S1 := toAside (S0.out.set4 (.int .u32 ((G.n : Int) + 1)))
      have HPS0 : Aside (passG (addG G evb ty ky p) G.n = decide (p ≠ 0 ∧ jmpOf G p ≠ p)) := passG_new G evb ty ky p
      by_cases hp0 : p = 0
      · have PA := toAside (passes_any w.heap.size 0 0 (G.n + 1) (wr.setCell ⟨w.heap.size, 4, none⟩ (.int .u32 ((G.n : Int) + 1))) (by rw [cell_of_row _ w.heap.size 2 _ 49 (0, 0) S1.out.nb]; simp [hp0]) (by rw [cell_of_row _ w.heap.size 4 _ 49 (0, 0) S1.out.nb]; rfl))
        have HPS : Aside (passG (addG G evb ty ky p) G.n = false) := (by rw [HPS0.out, hp0]; simp : passG (addG G evb ty ky p) G.n = false)
        have HJ : Aside (jmpOf G p - 1 < G.n ∨ p = 0) := Or.inr hp0
        have hd0 : depOf G p = 0 := by rw [hp0]; rfl
        have hj0 : jmpOf G p = G.n + 1 := by rw [hp0]; rfl
        have S7a : Aside (∀ q, AddSt B0 w tg gB nv mp G cb cs i nm evb ty ky c N #[.pointer (some ⟨evb, 0, none⟩), .slice none 0 0, .int .u32 (p : Int), .int .u32 (depOf G p : Int), .int .u32 (jmpOf G p : Int), .int .u32 0] ((wr.setCell ⟨w.heap.size, 4, none⟩ (.int .u32 ((G.n : Int) + 1))).drewN q) tgr cvr) := fun q => by
          rw [hd0, hj0]
          exact S1.out.fr0 ⟨rfl, rfl, rfl, Nat.le_refl _, fun _ _ => rfl, fun _ _ _ => rfl⟩
        rw [hp0] at z2
        have Hp0 : Hid (p = 0) := hp0
        clear hp0 hd0 hj0
        go_wp2_with fail
        refine PA.out.mono ?_
        rintro e w8 ⟨rfl, q8, rfl⟩
        obtain ⟨w7, hw7⟩ : ∃ W, W = (wr.setCell ⟨w.heap.size, 4, none⟩ (.int .u32 ((G.n : Int) + 1))).drewN q8 := ⟨_, rfl⟩
        have S7 : Aside (AddSt B0 w tg gB nv mp G cb cs i nm evb ty ky c N #[.pointer (some ⟨evb, 0, none⟩), .slice none 0 0, .int .u32 (p : Int), .int .u32 (depOf G p : Int), .int .u32 (jmpOf G p : Int), .int .u32 0] w7 tgr cvr) := by rw [hw7]; exact S7a.out q8
        rw [← hw7]
        clear hw7 S7a PA S1 S0 z2 z4 zf ze
        simp only [ne_eq, not_true_eq_false, false_and, decide_false]
        obtain ⟨ga7, x1, x2, x3⟩ := S7.out.g.gblk
        have y0 : w7.cell? ⟨gB, 0, none⟩ = some nv := by rw [cell_of_row w7 gB 0 ga7 39 (0, 0) x1]; exact x2
        have yf : w7.frozen? ⟨gB, 0, none⟩ = false := frozen_of_row w7 gB 0 ga7 39 x1
        have hgl7 : gB < w7.heap.size := (Array.getElem?_eq_some_iff.1 x1).1
        have htg7 : tgr gB = 2 := S7.out.g.gtag
        have n0 : w7.cell? ⟨w.heap.size, 0, none⟩ = some (.pointer (some ⟨evb, 0, none⟩)) := by rw [cell_of_row w7 w.heap.size 0 _ 49 (0, 0) S7.out.nb]; rfl
        have n1 : w7.cell? ⟨w.heap.size, 1, none⟩ = some (.slice none 0 0) := by rw [cell_of_row w7 w.heap.size 1 _ 49 (0, 0) S7.out.nb]; rfl
        have n2 : w7.cell? ⟨w.heap.size, 2, none⟩ = some (.int .u32 (p : Int)) := by rw [cell_of_row w7 w.heap.size 2 _ 49 (0, 0) S7.out.nb]; rfl
        have n3 : w7.cell? ⟨w.heap.size, 3, none⟩ = some (.int .u32 (depOf G p : Int)) := by rw [cell_of_row w7 w.heap.size 3 _ 49 (0, 0) S7.out.nb]; rfl
        have n4 : w7.cell? ⟨w.heap.size, 4, none⟩ = some (.int .u32 (jmpOf G p : Int)) := by rw [cell_of_row w7 w.heap.size 4 _ 49 (0, 0) S7.out.nb]; rfl
        have n5 : w7.cell? ⟨w.heap.size, 5, none⟩ = some (.int .u32 0) := by rw [cell_of_row w7 w.heap.size 5 _ 49 (0, 0) S7.out.nb]; rfl
        have hwl7 : w.heap.size < w7.heap.size := World.block_lt_of_cell? w7 _ n0
        have RW : Aside (RowF B0 (w7.alloc (.cells #[.pointer (some ⟨evb, 0, none⟩), .slice none 0 0, .int .u32 (p : Int), .int .u32 (depOf G p : Int), .int .u32 (jmpOf G p : Int), .int .u32 0] 49)).drew (nT tgr w7.heap.size 18) 6 49 6 nv G.n (nodeC G cvr)) := by
          have h := S7.out.g.nodes.fr (Fr.of_alloc (fun _ => False) w7 tgr (.cells #[.pointer (some ⟨evb, 0, none⟩), .slice none 0 0, .int .u32 (p : Int), .int .u32 (depOf G p : Int), .int .u32 (jmpOf G p : Int), .int .u32 0] 49) 18) (fun h => h)
          exact toAside (h.drewN 1)
        have HB7 : Aside (B0 ≤ w7.heap.size) := Nat.le_trans hB0 S7.out.fr.size
        obtain ⟨i9, qi, qz0, qz1, qz2⟩ := info_parts info49
        have hi := toAside qi
        have hz0 := toAside qz0
        have hz1 := toAside qz1
        have hz2 := toAside qz2
        clear qi qz0 qz1 qz2 x1 x2 x3
        go_wp2_with fail
        go_region_law (refine step_rowF (by rfl) _ _ _ (by rfl) i9 _ 48 Yba.underlying27 hi.out hz0.out hz1.out hz2.out rfl (by decide) (by rfl) RW.out ⟨w7.heap.size, 0, none⟩ 1 [.pointer (some ⟨evb, 0, none⟩), .slice none 0 0, .int .u32 (p : Int), .int .u32 (depOf G p : Int), .int .u32 (jmpOf G p : Int), .int .u32 0] (by rfl) rfl (World.news_of_block (cs := #[.pointer (some ⟨evb, 0, none⟩), .slice none 0 0, .int .u32 (p : Int), .int .u32 (depOf G p : Int), .int .u32 (jmpOf G p : Int), .int .u32 0]) (t := 49) (fr := (0, 0)) (heap_alloc_new w7 _)) (by intro u hu; simp at hu; rcases hu with rfl | rfl | rfl | rfl | rfl | rfl <;> rfl) (by unfold maxLen; omega) (by omega) (by have := HB7.out; simp; omega) (nodeC (addG G evb ty ky p) (upd cvr G.n (.slice none 0 0))) (nodeC_old _ _ _ _ _ _ _) (nodeC_new _ _ _ _ _ _ _) ?_; intro gg cap9 w9 hrow9 hfr9; have k5 : w9.cell? ⟨gB, 0, none⟩ = some nv := hfr9.cell (keepCell y0) (by show ¬ (nT tgr w7.heap.size 18 gB = 6); rw [nT_lt _ _ _ _ hgl7, htg7]; omega); have k6 : w9.frozen? ⟨gB, 0, none⟩ = false := (World.frozen?_of_block (hfr9.block gB (Nat.lt_of_lt_of_le hgl7 (World.grownBy_alloc w7 (.cells #[.pointer (some ⟨evb, 0, none⟩), .slice none 0 0, .int .u32 (p : Int), .int .u32 (depOf G p : Int), .int .u32 (jmpOf G p : Int), .int .u32 0] 49) none).size) (by show ¬ (nT tgr w7.heap.size 18 gB = 6); rw [nT_lt _ _ _ _ hgl7, htg7]; omega))).trans (keepFrozen yf hgl7))
        all_goals
          go_end0
          have F := ((Fr.of_alloc (fun T => T = 6) w7 tgr (.cells #[.pointer (some ⟨evb, 0, none⟩), .slice none 0 0, .int .u32 (p : Int), .int .u32 (depOf G p : Int), .int .u32 (jmpOf G p : Int), .int .u32 0] 49) 18).drewN 1).trans hfr9
          refine ⟨rfl, ?_⟩
          rw [← HN.out, ← HPE.out]
          obtain ⟨tg', nv2, mp2, cv2, hG, hF⟩ := S7.out.done hple hn evB HCB.out (F.mono fun _ q => Or.inl q) hrow9 ((S7.out.g.named.skip evb ty ky p HPS.out).fr F (by omega) (by omega)) (fun _ _ => rfl) (fun q => by rw [HPS.out] at q; cases q) HJ.out
          exact ⟨tg', nv2, mp2, cv2, nm, hG, hF, fun _ _ => rfl, fun q => by rw [HPS.out] at q; cases q⟩
      · obtain ⟨pp, hpp⟩ : ∃ pp, p = pp + 1 := ⟨p - 1, by omega⟩
        have hppn : pp < G.n := by omega
        obtain ⟨jq, hjq, hjqp, hdq⟩ := S0.out.g.wf.jmp_lt pp hppn
        have hjqn : jq < G.n := by omega
        obtain ⟨jr, hjr, hjrq, hdr⟩ := S0.out.g.wf.jmp_lt jq hjqn
        have hjrn : jr < G.n := by omega
        have hwf := S0.out.g.wf
        have hsm := hwf.small
        have hdl := hwf.dep_le pp hppn
        have HDP : Aside (depOf G p = G.dep pp + 1) := (by rw [hpp]; rfl : depOf G p = G.dep pp + 1)
        have HJP : Aside (jmpOf G p = if G.dep pp - G.dep jq = G.dep jq - G.dep jr then jr + 1 else p) := (by unfold jmpOf; rw [if_neg hp0, hpp, Nat.add_sub_cancel, hjq, Nat.add_sub_cancel, hjr, Nat.add_sub_cancel] : jmpOf G p = if G.dep pp - G.dep jq = G.dep jq - G.dep jr then jr + 1 else p)
        have HJ : Aside (jmpOf G p - 1 < G.n ∨ p = 0) := (by rw [HJP.out]; split <;> omega : jmpOf G p - 1 < G.n ∨ p = 0)
        have p0 : (0 : Int) ≤ (pp : Int) := by omega
        have p1 : (pp : Int) < (G.n : Int) := by omega
        have pb : (((pp : Int) + 1) != 0) = true := by simp; omega
        have q0 : (0 : Int) ≤ (jq : Int) := by omega
        have q1 : (jq : Int) < (G.n : Int) := by omega
        have r0 : (0 : Int) ≤ (jr : Int) := by omega
        have r1 : (jr : Int) < (G.n : Int) := by omega
        have wp1 : IntKind.u32.wrap (pp : Int) = pp := by rw [IntKind.wrap_u32]; omega
        have wq1 : IntKind.u32.wrap (jq : Int) = jq := by rw [IntKind.wrap_u32]; omega
        have wr1 : IntKind.u32.wrap (jr : Int) = jr := by rw [IntKind.wrap_u32]; omega
        have wd1 : IntKind.u32.wrap ((G.dep pp : Int) + 1) = (G.dep pp : Int) + 1 := by rw [IntKind.wrap_u32]; omega
        have ws1 : IntKind.u32.wrap ((G.dep pp : Int) - (G.dep jq : Int)) = ((G.dep pp - G.dep jq : Nat) : Int) := by rw [IntKind.wrap_u32]; omega
        have ws2 : IntKind.u32.wrap ((G.dep jq : Int) - (G.dep jr : Int)) = ((G.dep jq - G.dep jr : Nat) : Int) := by rw [IntKind.wrap_u32]; omega
        rw [hpp, show ((pp + 1 : Nat) : Int) = (pp : Int) + 1 by omega] at z2
        have HPP : Hid (p = pp + 1) := hpp
        obtain ⟨A, hA⟩ : ∃ A, A = G.dep pp - G.dep jq := ⟨_, rfl⟩
        obtain ⟨Bq, hBq⟩ : ∃ Bq, Bq = G.dep jq - G.dep jr := ⟨_, rfl⟩
        rw [← hA] at ws1
        rw [← hBq] at ws2
        have HA : Hid (A = G.dep pp - G.dep jq) := hA
        have HBQ : Hid (Bq = G.dep jq - G.dep jr) := hBq
        have HJQ : Hid (G.jmp pp = jq + 1) := hjq
        have HJR : Hid (G.jmp jq = jr + 1) := hjr
        have HWF := toAside hwf
        clear hpp hA hBq hdl hdq hdr hwf
        go_wp2_with fail
        obtain ⟨w1, hw1⟩ : ∃ W, W = wr.setCell ⟨w.heap.size, 4, none⟩ (.int .u32 ((G.n : Int) + 1)) := ⟨_, rfl⟩
        rw [← hw1] at S1 ⊢
        clear hw1 z2 z4 zf ze S0
        obtain ⟨nb, cn, hnv1, M1, _⟩ := S1.out.g.gmem (by omega)
        have a0 := M1.g0
        have a1 := M1.jmp pp hppn
        have a2 := M1.dep pp hppn
        have a3 := M1.jmp jq hjqn
        have a4 := M1.dep jq hjqn
        have a5 := M1.dep jr hjrn
        rw [hjq, show ((jq + 1 : Nat) : Int) = (jq : Int) + 1 by omega] at a1
        rw [hjr, show ((jr + 1 : Nat) : Int) = (jr : Int) + 1 by omega] at a3
        have b2 : w1.cell? ⟨w.heap.size, 2, none⟩ = some (.int .u32 ((pp : Int) + 1)) := by rw [cell_of_row w1 w.heap.size 2 _ 49 (0, 0) S1.out.nb]; simp [HPP.out]
        have b3 : w1.cell? ⟨w.heap.size, 3, none⟩ = some (.int .u32 0) := by rw [cell_of_row w1 w.heap.size 3 _ 49 (0, 0) S1.out.nb]; rfl
        have b4 : w1.cell? ⟨w.heap.size, 4, none⟩ = some (.int .u32 ((G.n : Int) + 1)) := by rw [cell_of_row w1 w.heap.size 4 _ 49 (0, 0) S1.out.nb]; rfl
        have bf : ∀ o, w1.frozen? ⟨w.heap.size, o, none⟩ = false := fun o => frozen_of_row w1 w.heap.size o _ 49 S1.out.nb
        have HNV1 : Hid (nv = .slice (some ⟨nb, 0, none⟩) G.n cn) := hnv1
        clear hjq hjr hnv1 M1
        go_quiet (fail)
        revert nq
        intro q1
        go_wp2_with fail
        go_quiet (fail)
        go_wp2_with fail
        obtain ⟨w2, hw2⟩ : ∃ W, W = ((w1.drewN (q1 + nq)).setCell ⟨w.heap.size, 3, none⟩ (.int .u32 ((G.dep pp : Int) + 1))).setCell ⟨w.heap.size, 4, none⟩ (.int .u32 ((pp : Int) + 1)) := ⟨_, rfl⟩
        rw [HPP.out] at S1
        have S2 : Aside (AddSt B0 w tg gB nv mp G cb cs i nm evb ty ky c N #[.pointer (some ⟨evb, 0, none⟩), .slice none 0 0, .int .u32 ((pp : Int) + 1), .int .u32 ((G.dep pp : Int) + 1), .int .u32 ((pp : Int) + 1), .int .u32 0] w2 tgr cvr) := by
          rw [hw2]; exact toAside (((S1.out.fr0 (w' := w1.drewN (q1 + nq)) ⟨rfl, rfl, rfl, Nat.le_refl _, fun _ _ => rfl, fun _ _ _ => rfl⟩).set3 _).set4 _)
        rw [← hw2]
        clear hw2 a0 a1 a2 a3 a4 a5 b2 b3 b4 bf S1
        obtain ⟨nb2, cn2, hnv2, M2, _⟩ := S2.out.g.gmem (by omega)
        obtain ⟨rfl, rfl⟩ : nb = nb2 ∧ cn = cn2 := by have := HNV1.out.symm.trans hnv2; simpa using this
        have a0 := M2.g0
        have a2 := M2.dep pp hppn
        have a3 := M2.jmp jq hjqn
        have a4 := M2.dep jq hjqn
        have a5 := M2.dep jr hjrn
        rw [HJR.out, show ((jr + 1 : Nat) : Int) = (jr : Int) + 1 by omega] at a3
        have b4 : w2.cell? ⟨w.heap.size, 4, none⟩ = some (.int .u32 ((pp : Int) + 1)) := by rw [cell_of_row w2 w.heap.size 4 _ 49 (0, 0) S2.out.nb]; rfl
        have bf : ∀ o, w2.frozen? ⟨w.heap.size, o, none⟩ = false := fun o => frozen_of_row w2 w.heap.size o _ 49 S2.out.nb
        clear hnv2 M2
        by_cases hAB : A = Bq
        · have hb : ((A : Int) == (Bq : Int)) = true := by rw [hAB]; simp
          have HAB : Hid (A = Bq) := hAB
          have HJE : Aside (jmpOf G p = jr + 1) := (by rw [HJP.out, if_pos (by rw [← HA.out, ← HBQ.out]; exact hAB)] : jmpOf G p = jr + 1)
          clear hAB
          go_wp2_with fail
          go_quiet (fail)
          go_wp2_with fail
          have S3 := toAside ((S2.out.fr0 (w' := w2.drewN nq) ⟨rfl, rfl, rfl, Nat.le_refl _, fun _ _ => rfl, fun _ _ _ => rfl⟩).set4 (.int .u32 ((jr : Int) + 1)))
          have PA := toAside (passes_any w.heap.size 0 (pp + 1) (jr + 1) ((w2.drewN nq).setCell ⟨w.heap.size, 4, none⟩ (.int .u32 ((jr : Int) + 1))) (by rw [cell_of_row _ w.heap.size 2 _ 49 (0, 0) S3.out.nb]; rfl) (by rw [cell_of_row _ w.heap.size 4 _ 49 (0, 0) S3.out.nb]; rfl))
          refine PA.out.mono ?_
          rintro e w8 ⟨rfl, q8, rfl⟩
          obtain ⟨w7, hw7⟩ : ∃ W, W = ((w2.drewN nq).setCell ⟨w.heap.size, 4, none⟩ (.int .u32 ((jr : Int) + 1))).drewN q8 := ⟨_, rfl⟩
          have S7 : Aside (AddSt B0 w tg gB nv mp G cb cs i nm evb ty ky c N #[.pointer (some ⟨evb, 0, none⟩), .slice none 0 0, .int .u32 (p : Int), .int .u32 (depOf G p : Int), .int .u32 (jmpOf G p : Int), .int .u32 0] w7 tgr cvr) := by
            rw [hw7, HDP.out, HJE.out, HPP.out]
            exact toAside (S3.out.fr0 ⟨rfl, rfl, rfl, Nat.le_refl _, fun _ _ => rfl, fun _ _ _ => rfl⟩)
          rw [← hw7]
          clear hw7 PA S3 S2 a0 a2 a3 a4 a5 b4 bf
          by_cases hjp : jr + 1 = pp + 1
          · have hdc : decide (pp + 1 ≠ 0 ∧ jr + 1 ≠ pp + 1) = false := by simp [hjp]
            rw [hdc]
            have HPS : Aside (passG (addG G evb ty ky p) G.n = false) := (by rw [HPS0.out, HJE.out, HPP.out]; simp [hjp] : passG (addG G evb ty ky p) G.n = false)
            clear hdc hjp
            obtain ⟨ga7, x1, x2, x3⟩ := S7.out.g.gblk
            have y0 : w7.cell? ⟨gB, 0, none⟩ = some nv := by rw [cell_of_row w7 gB 0 ga7 39 (0, 0) x1]; exact x2
            have yf : w7.frozen? ⟨gB, 0, none⟩ = false := frozen_of_row w7 gB 0 ga7 39 x1
            have hgl7 : gB < w7.heap.size := (Array.getElem?_eq_some_iff.1 x1).1
            have htg7 : tgr gB = 2 := S7.out.g.gtag
            have n0 : w7.cell? ⟨w.heap.size, 0, none⟩ = some (.pointer (some ⟨evb, 0, none⟩)) := by rw [cell_of_row w7 w.heap.size 0 _ 49 (0, 0) S7.out.nb]; rfl
            have n1 : w7.cell? ⟨w.heap.size, 1, none⟩ = some (.slice none 0 0) := by rw [cell_of_row w7 w.heap.size 1 _ 49 (0, 0) S7.out.nb]; rfl
            have n2 : w7.cell? ⟨w.heap.size, 2, none⟩ = some (.int .u32 (p : Int)) := by rw [cell_of_row w7 w.heap.size 2 _ 49 (0, 0) S7.out.nb]; rfl
            have n3 : w7.cell? ⟨w.heap.size, 3, none⟩ = some (.int .u32 (depOf G p : Int)) := by rw [cell_of_row w7 w.heap.size 3 _ 49 (0, 0) S7.out.nb]; rfl
            have n4 : w7.cell? ⟨w.heap.size, 4, none⟩ = some (.int .u32 (jmpOf G p : Int)) := by rw [cell_of_row w7 w.heap.size 4 _ 49 (0, 0) S7.out.nb]; rfl
            have n5 : w7.cell? ⟨w.heap.size, 5, none⟩ = some (.int .u32 0) := by rw [cell_of_row w7 w.heap.size 5 _ 49 (0, 0) S7.out.nb]; rfl
            have hwl7 : w.heap.size < w7.heap.size := World.block_lt_of_cell? w7 _ n0
            have RW : Aside (RowF B0 (w7.alloc (.cells #[.pointer (some ⟨evb, 0, none⟩), .slice none 0 0, .int .u32 (p : Int), .int .u32 (depOf G p : Int), .int .u32 (jmpOf G p : Int), .int .u32 0] 49)).drew (nT tgr w7.heap.size 18) 6 49 6 nv G.n (nodeC G cvr)) := by
              have h := S7.out.g.nodes.fr (Fr.of_alloc (fun _ => False) w7 tgr (.cells #[.pointer (some ⟨evb, 0, none⟩), .slice none 0 0, .int .u32 (p : Int), .int .u32 (depOf G p : Int), .int .u32 (jmpOf G p : Int), .int .u32 0] 49) 18) (fun h => h)
              exact toAside (h.drewN 1)
            have HB7 : Aside (B0 ≤ w7.heap.size) := Nat.le_trans hB0 S7.out.fr.size
            obtain ⟨i9, qi, qz0, qz1, qz2⟩ := info_parts info49
            have hi := toAside qi
            have hz0 := toAside qz0
            have hz1 := toAside qz1
            have hz2 := toAside qz2
            clear qi qz0 qz1 qz2 x1 x2 x3
            go_wp2_with fail
            go_region_law (refine step_rowF (by rfl) _ _ _ (by rfl) i9 _ 48 Yba.underlying27 hi.out hz0.out hz1.out hz2.out rfl (by decide) (by rfl) RW.out ⟨w7.heap.size, 0, none⟩ 1 [.pointer (some ⟨evb, 0, none⟩), .slice none 0 0, .int .u32 (p : Int), .int .u32 (depOf G p : Int), .int .u32 (jmpOf G p : Int), .int .u32 0] (by rfl) rfl (World.news_of_block (cs := #[.pointer (some ⟨evb, 0, none⟩), .slice none 0 0, .int .u32 (p : Int), .int .u32 (depOf G p : Int), .int .u32 (jmpOf G p : Int), .int .u32 0]) (t := 49) (fr := (0, 0)) (heap_alloc_new w7 _)) (by intro u hu; simp at hu; rcases hu with rfl | rfl | rfl | rfl | rfl | rfl <;> rfl) (by unfold maxLen; omega) (by omega) (by have := HB7.out; simp; omega) (nodeC (addG G evb ty ky p) (upd cvr G.n (.slice none 0 0))) (nodeC_old _ _ _ _ _ _ _) (nodeC_new _ _ _ _ _ _ _) ?_; intro gg cap9 w9 hrow9 hfr9; have k5 : w9.cell? ⟨gB, 0, none⟩ = some nv := hfr9.cell (keepCell y0) (by show ¬ (nT tgr w7.heap.size 18 gB = 6); rw [nT_lt _ _ _ _ hgl7, htg7]; omega); have k6 : w9.frozen? ⟨gB, 0, none⟩ = false := (World.frozen?_of_block (hfr9.block gB (Nat.lt_of_lt_of_le hgl7 (World.grownBy_alloc w7 (.cells #[.pointer (some ⟨evb, 0, none⟩), .slice none 0 0, .int .u32 (p : Int), .int .u32 (depOf G p : Int), .int .u32 (jmpOf G p : Int), .int .u32 0] 49) none).size) (by show ¬ (nT tgr w7.heap.size 18 gB = 6); rw [nT_lt _ _ _ _ hgl7, htg7]; omega))).trans (keepFrozen yf hgl7))
            all_goals
              go_end0
              have F := ((Fr.of_alloc (fun T => T = 6) w7 tgr (.cells #[.pointer (some ⟨evb, 0, none⟩), .slice none 0 0, .int .u32 (p : Int), .int .u32 (depOf G p : Int), .int .u32 (jmpOf G p : Int), .int .u32 0] 49) 18).drewN 1).trans hfr9
              refine ⟨rfl, ?_⟩
              rw [← HN.out, ← HPE.out]
              obtain ⟨tg', nv2, mp2, cv2, hG, hF⟩ := S7.out.done hple hn evB HCB.out (F.mono fun _ q => Or.inl q) hrow9 ((S7.out.g.named.skip evb ty ky p HPS.out).fr F (by omega) (by omega)) (fun _ _ => rfl) (fun q => by rw [HPS.out] at q; cases q) HJ.out
              exact ⟨tg', nv2, mp2, cv2, nm, hG, hF, fun _ _ => rfl, fun q => by rw [HPS.out] at q; cases q⟩
          · have hdc : decide (pp + 1 ≠ 0 ∧ jr + 1 ≠ pp + 1) = true := by rw [decide_eq_true_eq]; exact ⟨by omega, hjp⟩
            rw [hdc]
            have HPS : Aside (passG (addG G evb ty ky p) G.n = true) := (by rw [HPS0.out, HJE.out, HPP.out]; simpa using hjp : passG (addG G evb ty ky p) G.n = true)
            clear hdc
            obtain ⟨nb7, cn7, hnv7, M7, _, _, hnbl7, _⟩ := S7.out.g.gmem (by omega)
            obtain ⟨rfl, rfl⟩ : nb = nb7 ∧ cn = cn7 := by have := HNV1.out.symm.trans hnv7; simpa using this
            have a0 := M7.g0
            have a1 := M7.jmp pp hppn
            rw [HJQ.out, show ((jq + 1 : Nat) : Int) = (jq : Int) + 1 by omega] at a1
            have n2 : w7.cell? ⟨w.heap.size, 2, none⟩ = some (.int .u32 ((pp : Int) + 1)) := by rw [cell_of_row w7 w.heap.size 2 _ 49 (0, 0) S7.out.nb]; simp [HPP.out]
            have E1 := toAside (event_any gB nb G.n cn pp (G.ev pp) w7 M7.g0 hppn S7.out.g.wf.small (M7.ev pp hppn))
            have E2 : Aside (∀ n, Calls Yba.prog 16 #[.pointer (some ⟨gB, 0, none⟩), .int .u32 ((jq : Int) + 1)] (w7.drewN n) fun e w' => e = .returned (.pointer (some ⟨G.ev jq, 0, none⟩)) ∧ w' = w7.drewN n) := fun n => (event_any gB nb G.n cn jq (G.ev jq) (w7.drewN n) (M7.drewN n).g0 hjqn S7.out.g.wf.small ((M7.drewN n).ev jq hjqn)).mono fun _ _ ⟨h1, h2⟩ => ⟨h1, h2.symm⟩
            clear hnv7 M7
            go_wp2_with fail
            refine E1.out.mono ?_
            rintro e w8 ⟨rfl, rfl⟩
            have e2 := E2.out
            go_wp2_with fail
            go_quiet (first | (go_at_call 16; refine Calls.quiet_of_same (e2 _)))
            clear e2 E2 E1
            go_wp2_with fail
            obtain ⟨w8, hw8⟩ : ∃ W, W = w7.drewN nq := ⟨_, rfl⟩
            have S8 : Aside (AddSt B0 w tg gB nv mp G cb cs i nm evb ty ky c N #[.pointer (some ⟨evb, 0, none⟩), .slice none 0 0, .int .u32 (p : Int), .int .u32 (depOf G p : Int), .int .u32 (jmpOf G p : Int), .int .u32 0] w8 tgr cvr) := by rw [hw8]; exact toAside (S7.out.fr0 ⟨rfl, rfl, rfl, Nat.le_refl _, fun _ _ => rfl, fun _ _ _ => rfl⟩)
            rw [← hw8]
            clear hw8 S7 a0 a1 n2
            obtain ⟨x8, xt8⟩ := HX.out.fr HXT.out S8.out.fr (fun T q => by omega)
            have X8 := toAside x8
            have NT8 := toAside (HNT.out.fr S8.out.fr (by omega))
            have NM8 := toAside (NT8.out.mem S8.out.g)
            obtain ⟨ea8, ad8, ec8, v1, v2, v3, v4, v5, v6, v7, v8⟩ := S8.out.ev
            have AO := toAside (appendOwn_any x8 NM8.out evb c.length ec8 ad8 c (EvMem.cellAt v1 v5) (Array.getElem?_eq_some_iff.1 v1).1 (fun t ht => by obtain ⟨b, o, h1, _, h3⟩ := v8 t ht; exact ⟨b, o, h1, World.block_lt_of_cell? w8 _ h3, h3⟩) rfl v6 v7 (.pointer (some ⟨gB, 0, none⟩)) (.slice none 0 0) [] (pp + 1) w8 (RowKit.Below.refl _ _) (World.ownsRow_nil _ _ _ _) (by simp))
            have M7w : Aside (w8.cell? ⟨evb, 7, none⟩ = some (.int .u32 ((G.n : Int) + 1))) := EvMem.cellAt v1 v4
            have hel8 := toAside (Array.getElem?_eq_some_iff.1 v1).1
            have HC7 := toAside v7
            clear x8 xt8 v1 v2 v3 v4 v5 v6 v7 v8
            have HPD : Aside (G.dep jq < G.dep pp ∧ G.dep jr < G.dep jq) := by
              have hwf := HWF.out
              have hA := HA.out
              have hB := HBQ.out
              have hAB := HAB.out
              by_cases hr : G.par pp = 0
              · have h1 := (hwf.root pp hppn hr).2
                have h2 : jq = pp := by have := HJQ.out; omega
                have h3 := HJR.out
                rw [h2] at h3
                exact absurd (by omega) hjp
              · obtain ⟨_, _, t, t1, t2, t3⟩ := hwf.kid pp hppn hr
                obtain ⟨j, j1, j2, j3⟩ := hwf.up t pp hppn t2
                have h2 : jq = j := by have := HJQ.out; omega
                rw [← h2] at j3
                exact toAside ⟨by omega, by omega⟩
            have HL1 : Aside ((ownL evp nd (pp + 1) c).length ≤ 16) := Nat.le_trans (ownL_len _ _ _ _) e6
            have HL2 : Aside ((namN evp nd G cs nm pp).length ≤ 16 * (G.dep pp - G.dep jq)) := (by have h := namN_len S8.out.g evp nd hppn (by rw [HJQ.out, Nat.add_sub_cancel]; exact HPD.out.1); rw [HJQ.out, Nat.add_sub_cancel] at h; exact h : (namN evp nd G cs nm pp).length ≤ 16 * (G.dep pp - G.dep jq))
            have HL3 : Aside ((namN evp nd G cs nm jq).length ≤ 16 * (G.dep jq - G.dep jr)) := (by have h := namN_len S8.out.g evp nd hjqn (by rw [HJR.out, Nat.add_sub_cancel]; exact HPD.out.2); rw [HJR.out, Nat.add_sub_cancel] at h; exact h : (namN evp nd G cs nm jq).length ≤ 16 * (G.dep jq - G.dep jr))
            have HDL : Aside (G.dep pp ≤ 512) := Nat.le_trans (HWF.out.dep_le pp hppn) (by omega)
            refine AO.out.mono ?_
            rintro e w9 ⟨v9, rfl, r9, b9⟩
            rw [List.nil_append] at r9
            have AN1 := toAside (appendNamed_any S8.out.g X8.out NM8.out pp hppn v9 _ w9 b9 r9 (by have := HL1.out; omega))
            clear AO r9 b9
            go_wp2_with fail
            refine AN1.out.mono ?_
            rintro e w10 ⟨v10, rfl, r10, b10⟩
            have AN2 := toAside (appendNamed_any S8.out.g X8.out NM8.out jq hjqn v10 _ w10 b10 r10 (by have h1 := HL1.out; have h2 := HL2.out; have h3 := HDL.out; rw [List.length_append]; omega))
            clear AN1 r10 b10
            go_wp2_with fail
            refine AN2.out.mono ?_
            rintro e w11 ⟨v11, rfl, r11, b11⟩
            clear AN2
            obtain ⟨x, hx⟩ : ∃ x, x = (ownL evp nd (pp + 1) c ++ namN evp nd G cs nm pp ++ namN evp nd G cs nm jq).map (· - 1) := ⟨_, rfl⟩
            have hall : ∀ e ∈ ownL evp nd (pp + 1) c ++ namN evp nd G cs nm pp ++ namN evp nd G cs nm jq, 1 ≤ e ∧ e ≤ G.n := by
              intro e he
              rw [List.mem_append, List.mem_append] at he
              rcases he with (he | he) | he
              · obtain ⟨h1, _, h2⟩ := own_mem he
                exact ⟨by omega, NT8.out.le HC7.out e h2⟩
              · exact namN_mem S8.out.g NT8.out hppn he
              · exact namN_mem S8.out.g NT8.out hjqn he
            have HXM : Aside (∀ y ∈ x, y < G.n) := by
              intro y hy
              rw [hx] at hy
              obtain ⟨e, he, rfl⟩ := List.mem_map.1 hy
              have := hall e he
              omega
            have hU : U32s x = U32 (ownL evp nd (pp + 1) c ++ namN evp nd G cs nm pp ++ namN evp nd G cs nm jq) := by
              unfold U32s U32
              rw [hx, List.map_map, List.map_map]
              refine List.map_congr_left fun e he => ?_
              have := hall e he
              simp only [Function.comp]
              rw [show e - 1 + 1 = e by omega]
            have hxl : x.length = (ownL evp nd (pp + 1) c ++ namN evp nd G cs nm pp ++ namN evp nd G cs nm jq).length := by rw [hx, List.length_map]
            have HXL : Aside (x.length ≤ 16 * (depOf G p - G.dep (jmpOf G p - 1))) := (by
              have h1 := HL1.out; have h2 := HL2.out; have h3 := HL3.out; have h4 := HPD.out.1; have h5 := HPD.out.2
              rw [hxl, List.length_append, List.length_append, HDP.out, HJE.out, Nat.add_sub_cancel]
              omega : x.length ≤ 16 * (depOf G p - G.dep (jmpOf G p - 1)))
            have R11 : Aside (w11.ownsRow w8.heap.size 45 1 v11 x.length (U32s x)) := by rw [hU, hxl]; exact toAside r11
            have HXE : Hid (x = (ownL evp nd p c ++ namN evp nd G cs nm (p - 1) ++ namN evp nd G cs nm (G.jmp (p - 1) - 1)).map (· - 1)) := by
              show _ = _
              rw [HPP.out, Nat.add_sub_cancel, HJQ.out, Nat.add_sub_cancel]; exact hx
            have hxs : x.length ≤ 1000000 := by have h1 := HXL.out; have h3 := HDL.out; rw [HDP.out] at h1; omega
            have B11 := toAside b11
            clear r11 b11 hU hxl hall hx
            rcases S8.out.g.named with ⟨rfl, h0⟩ | ⟨mb, cM, fM, rfl, _⟩
            · have m0 : w11.cell? ⟨gB, 2, none⟩ = some (.map none) := by
                obtain ⟨_, q1, _, q3⟩ := S8.out.g.gblk
                refine (B11.out.cell (p := ⟨gB, 2, none⟩) (Array.getElem?_eq_some_iff.1 q1).1).trans ?_
                rw [cell_of_row w8 gB 2 _ 39 (0, 0) q1]; exact q3
              have mf : w11.frozen? ⟨gB, 2, none⟩ = false := by
                obtain ⟨qa, q1, _, q3⟩ := S8.out.g.gblk
                exact frozen_of_row w11 gB 2 qa 39 ((B11.out.block gB (Array.getElem?_eq_some_iff.1 q1).1).trans q1)
              have hgl11 : gB < w11.heap.size := World.block_lt_of_cell? w11 _ m0
              have qm := eqMap_nil
              have mk : ∀ W : World, (Instr.makeMap 29 none).run Yba.prog W = .ok (.map (some W.heap.size)) (W.alloc (.map #[] 0)) := fun W => rfl
              have RN := toAside (reduced_new S8.out (by omega) B11.out v11 x HXM.out R11.out hxs (Nat.le_trans hB0 S8.out.fr.size))
              have M2c : Aside (((w11.alloc (.map #[] 0)).setCell ⟨gB, 2, none⟩ (.map (some w11.heap.size))).cell? ⟨gB, 2, none⟩ = some (.map (some w11.heap.size))) := by
                obtain ⟨qa, q1, _, q3⟩ := S8.out.g.gblk
                have q5 : (w11.alloc (.map #[] 0)).heap[gB]? = some (.cells qa 39 (0, 0)) := ((World.grownBy_alloc w11 _ none).block gB hgl11 (by simp)).trans ((B11.out.block gB (Array.getElem?_eq_some_iff.1 q1).1).trans q1)
                refine toAside ?_
                rw [cell_of_row _ gB 2 _ 39 (0, 0) (heap_setCell_same _ gB 2 qa 39 _ q5)]
                simp [(Array.getElem?_eq_some_iff.1 q3).1]
              have M7c : Aside (((w11.alloc (.map #[] 0)).setCell ⟨gB, 2, none⟩ (.map (some w11.heap.size))).cell? ⟨evb, 7, none⟩ = some (.int .u32 ((G.n : Int) + 1))) := by
                have hne : evb ≠ gB := fun e => by have h1 := S8.out.evt; have h2 := S8.out.g.gtag; rw [e, h2] at h1; omega
                refine toAside ((World.cell?_of_block (heap_setCell_other _ ⟨gB, 2, none⟩ evb _ hne)).trans ?_)
                exact (World.grownBy_alloc w11 _ none).cell ((B11.out.cell (p := ⟨evb, 7, none⟩) hel8.out).trans M7w.out) (by simp)
              go_wp2_with fail
              have hsw : (w11.alloc (.map #[] 0)).setCell ⟨gB, 2, none⟩ (.map (some w11.heap.size)) = (w11.setCell ⟨gB, 2, none⟩ (.map (some w11.heap.size))).alloc (.map #[] 0) := by apply World.setCell_alloc_past; exact hgl11
              obtain ⟨wb, hwb⟩ : ∃ W, W = (w11.setCell ⟨gB, 2, none⟩ (.map (some w11.heap.size))).alloc (.map #[] 0) := ⟨_, rfl⟩
              have RN2 : Aside (∀ W, W = wb.drew → _) := fun W hW => RN.out W (by rw [hW, hwb, hsw])
              rw [hsw] at M2c M7c
              rw [← hwb] at M2c M7c ⊢
              clear hsw
              clear hwb RN m0 mf
              have m2 : wb.cell? ⟨gB, 2, none⟩ = some (.map (some w11.heap.size)) := M2c.out
              have m7 : wb.cell? ⟨evb, 7, none⟩ = some (.int .u32 ((G.n : Int) + 1)) := M7c.out
              go_wp2_with fail
              go_region_held3 (fun w' => w'.cell? ⟨gB, 2, none⟩ = some (.map (some w11.heap.size)) ∧ w'.cell? ⟨evb, 7, none⟩ = some (.int .u32 ((G.n : Int) + 1)))
                (first
                  | exact ⟨m2, m7⟩
                  | exact hc12
                  | exact hc13)
                (first | (go_at_call 19; refine (RN2.out _ rfl).mono ?_; rintro e w12 ⟨v12, rfl, L, tg12, hp12, hs12, s12, hr12, hk12⟩; have S12 := toAside s12; have hc12 : w12.cell? ⟨gB, 2, none⟩ = some (.map (some w11.heap.size)) ∧ w12.cell? ⟨evb, 7, none⟩ = some (.int .u32 ((G.n : Int) + 1)) := ⟨(by obtain ⟨_, q1, _, q3⟩ := s12.g.gblk; rw [cell_of_row w12 gB 2 _ 39 (0, 0) q1]; exact q3), (by obtain ⟨_, _, _, v1, _, _, v4, _⟩ := s12.ev; exact EvMem.cellAt v1 v4)⟩; obtain ⟨w13, hup, hgr13, htm, hNM⟩ := s12.g.named.put hn hr12 evb ty ky p; have hc13 : w13.cell? ⟨gB, 2, none⟩ = some (.map (some w11.heap.size)) ∧ w13.cell? ⟨evb, 7, none⟩ = some (.int .u32 ((G.n : Int) + 1)) := ⟨hgr13.cell hc12.1 (by have h1 := s12.g.gtag; intro e; have h4 := congrArg tg12 (Option.some.inj e : gB = w11.heap.size); omega), hgr13.cell hc12.2 (by have h1 := s12.evt; intro e; have h4 := congrArg tg12 (Option.some.inj e : evb = w11.heap.size); omega)⟩))
              obtain ⟨tg13, f13⟩ : ∃ tg13, Aside (Fr (fun T => T = 10) w12 tg12 w13 tg13) := ⟨_, Fr.of_grown tg12 18 hgr13 (fun b hb => by cases hb; exact htm)⟩
              have F13 := f13
              have NM13 : Aside (NamedMem B0 w13 tg13 (some w11.heap.size) (addG G evb ty ky p) (upd nm G.n (red G L))) := hNM HPS.out tg13 F13.out
              have HNN : Aside ((red G L).length ≤ 16 * (depOf G p - G.dep (jmpOf G p - 1)) ∧ ∀ y ∈ red G L, y < G.n) := ⟨Nat.le_trans (red_len G L) (by rw [hp12.length_eq]; exact HXL.out), fun y hy => HXM.out y (hp12.subset (red_mem hy))⟩
              have HNR : Aside (NamR evp nd G cs nm c p (red G L)) := ⟨L, by rw [← HXE.out]; exact hp12, hs12, rfl⟩
              clear hup hgr13 hNM hc12 hc13 s12 hr12 hk12 hp12 hs12 m2 m7 f13 htm
              obtain ⟨ga7, x1, x2, x3⟩ := S12.out.g.gblk
              have x1 := F13.out.heap x1 (by rw [S12.out.g.gtag]; omega)
              have nbW := F13.out.heap S12.out.nb (by rw [S12.out.nt]; omega)
              have y0 : w13.cell? ⟨gB, 0, none⟩ = some nv := by rw [cell_of_row w13 gB 0 ga7 39 (0, 0) x1]; exact x2
              have yf : w13.frozen? ⟨gB, 0, none⟩ = false := frozen_of_row w13 gB 0 ga7 39 x1
              have hgl7 : gB < w13.heap.size := (Array.getElem?_eq_some_iff.1 x1).1
              have htg7 : tg13 gB = 2 := by
                obtain ⟨ga8, z1, _⟩ := S12.out.g.gblk
                exact (F13.out.tagOf z1).trans S12.out.g.gtag
              have n0 : w13.cell? ⟨w.heap.size, 0, none⟩ = some (.pointer (some ⟨evb, 0, none⟩)) := by rw [cell_of_row w13 w.heap.size 0 _ 49 (0, 0) nbW]; rfl
              have n1 : w13.cell? ⟨w.heap.size, 1, none⟩ = some (.slice none 0 0) := by rw [cell_of_row w13 w.heap.size 1 _ 49 (0, 0) nbW]; rfl
              have n2 : w13.cell? ⟨w.heap.size, 2, none⟩ = some (.int .u32 (p : Int)) := by rw [cell_of_row w13 w.heap.size 2 _ 49 (0, 0) nbW]; rfl
              have n3 : w13.cell? ⟨w.heap.size, 3, none⟩ = some (.int .u32 (depOf G p : Int)) := by rw [cell_of_row w13 w.heap.size 3 _ 49 (0, 0) nbW]; rfl
              have n4 : w13.cell? ⟨w.heap.size, 4, none⟩ = some (.int .u32 (jmpOf G p : Int)) := by rw [cell_of_row w13 w.heap.size 4 _ 49 (0, 0) nbW]; rfl
              have n5 : w13.cell? ⟨w.heap.size, 5, none⟩ = some (.int .u32 0) := by rw [cell_of_row w13 w.heap.size 5 _ 49 (0, 0) nbW]; rfl
              have hwl7 : w.heap.size < w13.heap.size := World.block_lt_of_cell? w13 _ n0
              have RW : Aside (RowF B0 (w13.alloc (.cells #[.pointer (some ⟨evb, 0, none⟩), .slice none 0 0, .int .u32 (p : Int), .int .u32 (depOf G p : Int), .int .u32 (jmpOf G p : Int), .int .u32 0] 49)).drew (nT tg13 w13.heap.size 18) 6 49 6 nv G.n (nodeC G cvr)) := by
                have h := (S12.out.g.nodes.fr F13.out (by omega)).fr (Fr.of_alloc (fun _ => False) w13 tg13 (.cells #[.pointer (some ⟨evb, 0, none⟩), .slice none 0 0, .int .u32 (p : Int), .int .u32 (depOf G p : Int), .int .u32 (jmpOf G p : Int), .int .u32 0] 49) 18) (fun h => h)
                exact toAside (h.drewN 1)
              have HB7 : Aside (B0 ≤ w13.heap.size) := Nat.le_trans hB0 (Nat.le_trans S12.out.fr.size F13.out.size)
              obtain ⟨i9, qi, qz0, qz1, qz2⟩ := info_parts info49
              have hi := toAside qi
              have hz0 := toAside qz0
              have hz1 := toAside qz1
              have hz2 := toAside qz2
              clear qi qz0 qz1 qz2 x1 x2 x3 nbW
              go_wp2_with fail
              go_region_law (refine step_rowF (by rfl) _ _ _ (by rfl) i9 _ 48 Yba.underlying27 hi.out hz0.out hz1.out hz2.out rfl (by decide) (by rfl) RW.out ⟨w13.heap.size, 0, none⟩ 1 [.pointer (some ⟨evb, 0, none⟩), .slice none 0 0, .int .u32 (p : Int), .int .u32 (depOf G p : Int), .int .u32 (jmpOf G p : Int), .int .u32 0] (by rfl) rfl (World.news_of_block (cs := #[.pointer (some ⟨evb, 0, none⟩), .slice none 0 0, .int .u32 (p : Int), .int .u32 (depOf G p : Int), .int .u32 (jmpOf G p : Int), .int .u32 0]) (t := 49) (fr := (0, 0)) (heap_alloc_new w13 _)) (by intro u hu; simp at hu; rcases hu with rfl | rfl | rfl | rfl | rfl | rfl <;> rfl) (by unfold maxLen; omega) (by omega) (by have := HB7.out; simp; omega) (nodeC (addG G evb ty ky p) (upd cvr G.n (.slice none 0 0))) (nodeC_old _ _ _ _ _ _ _) (nodeC_new _ _ _ _ _ _ _) ?_; intro gg cap9 w9 hrow9 hfr9; have k5 : w9.cell? ⟨gB, 0, none⟩ = some nv := hfr9.cell (keepCell y0) (by show ¬ (nT tg13 w13.heap.size 18 gB = 6); rw [nT_lt _ _ _ _ hgl7, htg7]; omega); have k6 : w9.frozen? ⟨gB, 0, none⟩ = false := (World.frozen?_of_block (hfr9.block gB (Nat.lt_of_lt_of_le hgl7 (World.grownBy_alloc w13 (.cells #[.pointer (some ⟨evb, 0, none⟩), .slice none 0 0, .int .u32 (p : Int), .int .u32 (depOf G p : Int), .int .u32 (jmpOf G p : Int), .int .u32 0] 49) none).size) (by show ¬ (nT tg13 w13.heap.size 18 gB = 6); rw [nT_lt _ _ _ _ hgl7, htg7]; omega))).trans (keepFrozen yf hgl7))
              all_goals
                go_end0
                have F := ((Fr.of_alloc (fun T => T = 6) w13 tg13 (.cells #[.pointer (some ⟨evb, 0, none⟩), .slice none 0 0, .int .u32 (p : Int), .int .u32 (depOf G p : Int), .int .u32 (jmpOf G p : Int), .int .u32 0] 49) 18).drewN 1).trans hfr9
                have F2 := (F13.out.mono (fun T (q : T = 10) => (Or.inr q : T = 6 ∨ T = 10))).trans (F.mono (fun T (q : T = 6) => (Or.inl q : T = 6 ∨ T = 10)))
                refine ⟨rfl, ?_⟩
                rw [← HN.out, ← HPE.out]
                obtain ⟨tg', nv2, mp2, cv2, hG, hF⟩ := S12.out.done hple hn evB HCB.out F2 hrow9 (NM13.out.fr F (by omega) (by omega)) (fun k hk => upd_other _ _ _ (by omega)) (fun _ => by rw [upd_same]; exact HNN.out) HJ.out
                exact ⟨tg', nv2, mp2, cv2, _, hG, hF, fun k hk => upd_other _ _ _ (by omega), fun _ => by rw [upd_same]; exact HNR.out⟩
            · have m0 : w11.cell? ⟨gB, 2, none⟩ = some (.map (some mb)) := by
                obtain ⟨_, q1, _, q3⟩ := S8.out.g.gblk
                refine (B11.out.cell (p := ⟨gB, 2, none⟩) (Array.getElem?_eq_some_iff.1 q1).1).trans ?_
                rw [cell_of_row w8 gB 2 _ 39 (0, 0) q1]; exact q3
              have qm := eqMap_some mb
              have RN2 := toAside (reduced_add S8.out (by omega) B11.out v11 x HXM.out R11.out hxs)
              have M2c := toAside m0
              have M7c : Aside (w11.cell? ⟨evb, 7, none⟩ = some (.int .u32 ((G.n : Int) + 1))) := (B11.out.cell (p := ⟨evb, 7, none⟩) hel8.out).trans M7w.out
              have m2 : w11.cell? ⟨gB, 2, none⟩ = some (.map (some mb)) := M2c.out
              have m7 : w11.cell? ⟨evb, 7, none⟩ = some (.int .u32 ((G.n : Int) + 1)) := M7c.out
              go_wp2_with fail
              go_region_held3 (fun w' => w'.cell? ⟨gB, 2, none⟩ = some (.map (some mb)) ∧ w'.cell? ⟨evb, 7, none⟩ = some (.int .u32 ((G.n : Int) + 1)))
                (first
                  | exact ⟨m2, m7⟩
                  | exact hc12
                  | exact hc13)
                (first | (go_at_call 19; refine (RN2.out _ rfl).mono ?_; rintro e w12 ⟨v12, rfl, L, tg12, hp12, hs12, s12, hr12, hk12⟩; have S12 := toAside s12; have hc12 : w12.cell? ⟨gB, 2, none⟩ = some (.map (some mb)) ∧ w12.cell? ⟨evb, 7, none⟩ = some (.int .u32 ((G.n : Int) + 1)) := ⟨(by obtain ⟨_, q1, _, q3⟩ := s12.g.gblk; rw [cell_of_row w12 gB 2 _ 39 (0, 0) q1]; exact q3), (by obtain ⟨_, _, _, v1, _, _, v4, _⟩ := s12.ev; exact EvMem.cellAt v1 v4)⟩; obtain ⟨w13, hup, hgr13, htm, hNM⟩ := s12.g.named.put hn hr12 evb ty ky p; have hc13 : w13.cell? ⟨gB, 2, none⟩ = some (.map (some mb)) ∧ w13.cell? ⟨evb, 7, none⟩ = some (.int .u32 ((G.n : Int) + 1)) := ⟨hgr13.cell hc12.1 (by have h1 := s12.g.gtag; intro e; have h4 := congrArg tg12 (Option.some.inj e : gB = mb); omega), hgr13.cell hc12.2 (by have h1 := s12.evt; intro e; have h4 := congrArg tg12 (Option.some.inj e : evb = mb); omega)⟩))
              obtain ⟨tg13, f13⟩ : ∃ tg13, Aside (Fr (fun T => T = 10) w12 tg12 w13 tg13) := ⟨_, Fr.of_grown tg12 18 hgr13 (fun b hb => by cases hb; exact htm)⟩
              have F13 := f13
              have NM13 : Aside (NamedMem B0 w13 tg13 (some mb) (addG G evb ty ky p) (upd nm G.n (red G L))) := hNM HPS.out tg13 F13.out
              have HNN : Aside ((red G L).length ≤ 16 * (depOf G p - G.dep (jmpOf G p - 1)) ∧ ∀ y ∈ red G L, y < G.n) := ⟨Nat.le_trans (red_len G L) (by rw [hp12.length_eq]; exact HXL.out), fun y hy => HXM.out y (hp12.subset (red_mem hy))⟩
              have HNR : Aside (NamR evp nd G cs nm c p (red G L)) := ⟨L, by rw [← HXE.out]; exact hp12, hs12, rfl⟩
              clear hup hgr13 hNM hc12 hc13 s12 hr12 hk12 hp12 hs12 m2 m7 f13 htm
              obtain ⟨ga7, x1, x2, x3⟩ := S12.out.g.gblk
              have x1 := F13.out.heap x1 (by rw [S12.out.g.gtag]; omega)
              have nbW := F13.out.heap S12.out.nb (by rw [S12.out.nt]; omega)
              have y0 : w13.cell? ⟨gB, 0, none⟩ = some nv := by rw [cell_of_row w13 gB 0 ga7 39 (0, 0) x1]; exact x2
              have yf : w13.frozen? ⟨gB, 0, none⟩ = false := frozen_of_row w13 gB 0 ga7 39 x1
              have hgl7 : gB < w13.heap.size := (Array.getElem?_eq_some_iff.1 x1).1
              have htg7 : tg13 gB = 2 := by
                obtain ⟨ga8, z1, _⟩ := S12.out.g.gblk
                exact (F13.out.tagOf z1).trans S12.out.g.gtag
              have n0 : w13.cell? ⟨w.heap.size, 0, none⟩ = some (.pointer (some ⟨evb, 0, none⟩)) := by rw [cell_of_row w13 w.heap.size 0 _ 49 (0, 0) nbW]; rfl
              have n1 : w13.cell? ⟨w.heap.size, 1, none⟩ = some (.slice none 0 0) := by rw [cell_of_row w13 w.heap.size 1 _ 49 (0, 0) nbW]; rfl
              have n2 : w13.cell? ⟨w.heap.size, 2, none⟩ = some (.int .u32 (p : Int)) := by rw [cell_of_row w13 w.heap.size 2 _ 49 (0, 0) nbW]; rfl
              have n3 : w13.cell? ⟨w.heap.size, 3, none⟩ = some (.int .u32 (depOf G p : Int)) := by rw [cell_of_row w13 w.heap.size 3 _ 49 (0, 0) nbW]; rfl
              have n4 : w13.cell? ⟨w.heap.size, 4, none⟩ = some (.int .u32 (jmpOf G p : Int)) := by rw [cell_of_row w13 w.heap.size 4 _ 49 (0, 0) nbW]; rfl
              have n5 : w13.cell? ⟨w.heap.size, 5, none⟩ = some (.int .u32 0) := by rw [cell_of_row w13 w.heap.size 5 _ 49 (0, 0) nbW]; rfl
              have hwl7 : w.heap.size < w13.heap.size := World.block_lt_of_cell? w13 _ n0
              have RW : Aside (RowF B0 (w13.alloc (.cells #[.pointer (some ⟨evb, 0, none⟩), .slice none 0 0, .int .u32 (p : Int), .int .u32 (depOf G p : Int), .int .u32 (jmpOf G p : Int), .int .u32 0] 49)).drew (nT tg13 w13.heap.size 18) 6 49 6 nv G.n (nodeC G cvr)) := by
                have h := (S12.out.g.nodes.fr F13.out (by omega)).fr (Fr.of_alloc (fun _ => False) w13 tg13 (.cells #[.pointer (some ⟨evb, 0, none⟩), .slice none 0 0, .int .u32 (p : Int), .int .u32 (depOf G p : Int), .int .u32 (jmpOf G p : Int), .int .u32 0] 49) 18) (fun h => h)
                exact toAside (h.drewN 1)
              have HB7 : Aside (B0 ≤ w13.heap.size) := Nat.le_trans hB0 (Nat.le_trans S12.out.fr.size F13.out.size)
              obtain ⟨i9, qi, qz0, qz1, qz2⟩ := info_parts info49
              have hi := toAside qi
              have hz0 := toAside qz0
              have hz1 := toAside qz1
              have hz2 := toAside qz2
              clear qi qz0 qz1 qz2 x1 x2 x3 nbW
              go_wp2_with fail
              go_region_law (refine step_rowF (by rfl) _ _ _ (by rfl) i9 _ 48 Yba.underlying27 hi.out hz0.out hz1.out hz2.out rfl (by decide) (by rfl) RW.out ⟨w13.heap.size, 0, none⟩ 1 [.pointer (some ⟨evb, 0, none⟩), .slice none 0 0, .int .u32 (p : Int), .int .u32 (depOf G p : Int), .int .u32 (jmpOf G p : Int), .int .u32 0] (by rfl) rfl (World.news_of_block (cs := #[.pointer (some ⟨evb, 0, none⟩), .slice none 0 0, .int .u32 (p : Int), .int .u32 (depOf G p : Int), .int .u32 (jmpOf G p : Int), .int .u32 0]) (t := 49) (fr := (0, 0)) (heap_alloc_new w13 _)) (by intro u hu; simp at hu; rcases hu with rfl | rfl | rfl | rfl | rfl | rfl <;> rfl) (by unfold maxLen; omega) (by omega) (by have := HB7.out; simp; omega) (nodeC (addG G evb ty ky p) (upd cvr G.n (.slice none 0 0))) (nodeC_old _ _ _ _ _ _ _) (nodeC_new _ _ _ _ _ _ _) ?_; intro gg cap9 w9 hrow9 hfr9; have k5 : w9.cell? ⟨gB, 0, none⟩ = some nv := hfr9.cell (keepCell y0) (by show ¬ (nT tg13 w13.heap.size 18 gB = 6); rw [nT_lt _ _ _ _ hgl7, htg7]; omega); have k6 : w9.frozen? ⟨gB, 0, none⟩ = false := (World.frozen?_of_block (hfr9.block gB (Nat.lt_of_lt_of_le hgl7 (World.grownBy_alloc w13 (.cells #[.pointer (some ⟨evb, 0, none⟩), .slice none 0 0, .int .u32 (p : Int), .int .u32 (depOf G p : Int), .int .u32 (jmpOf G p : Int), .int .u32 0] 49) none).size) (by show ¬ (nT tg13 w13.heap.size 18 gB = 6); rw [nT_lt _ _ _ _ hgl7, htg7]; omega))).trans (keepFrozen yf hgl7))
              all_goals
                go_end0
                have F := ((Fr.of_alloc (fun T => T = 6) w13 tg13 (.cells #[.pointer (some ⟨evb, 0, none⟩), .slice none 0 0, .int .u32 (p : Int), .int .u32 (depOf G p : Int), .int .u32 (jmpOf G p : Int), .int .u32 0] 49) 18).drewN 1).trans hfr9
                have F2 := (F13.out.mono (fun T (q : T = 10) => (Or.inr q : T = 6 ∨ T = 10))).trans (F.mono (fun T (q : T = 6) => (Or.inl q : T = 6 ∨ T = 10)))
                refine ⟨rfl, ?_⟩
                rw [← HN.out, ← HPE.out]
                obtain ⟨tg', nv2, mp2, cv2, hG, hF⟩ := S12.out.done hple hn evB HCB.out F2 hrow9 (NM13.out.fr F (by omega) (by omega)) (fun k hk => upd_other _ _ _ (by omega)) (fun _ => by rw [upd_same]; exact HNN.out) HJ.out
                exact ⟨tg', nv2, mp2, cv2, _, hG, hF, fun k hk => upd_other _ _ _ (by omega), fun _ => by rw [upd_same]; exact HNR.out⟩
        · have hb : ((A : Int) == (Bq : Int)) = false := by simp; omega
          have HJE : Aside (jmpOf G p = pp + 1) := (by rw [HJP.out, if_neg (by rw [← HA.out, ← HBQ.out]; exact hAB)]; exact HPP.out : jmpOf G p = pp + 1)
          clear hAB
          go_wp2_with fail
          go_quiet (fail)
          go_wp2_with fail
          have S3 := toAside (S2.out.fr0 (w' := w2.drewN nq) ⟨rfl, rfl, rfl, Nat.le_refl _, fun _ _ => rfl, fun _ _ _ => rfl⟩)
          have PA := toAside (passes_any w.heap.size 0 (pp + 1) (pp + 1) (w2.drewN nq) (by rw [cell_of_row _ w.heap.size 2 _ 49 (0, 0) S3.out.nb]; rfl) (by rw [cell_of_row _ w.heap.size 4 _ 49 (0, 0) S3.out.nb]; rfl))
          refine PA.out.mono ?_
          rintro e w8 ⟨rfl, q8, rfl⟩
          obtain ⟨w7, hw7⟩ : ∃ W, W = (w2.drewN nq).drewN q8 := ⟨_, rfl⟩
          have S7 : Aside (AddSt B0 w tg gB nv mp G cb cs i nm evb ty ky c N #[.pointer (some ⟨evb, 0, none⟩), .slice none 0 0, .int .u32 (p : Int), .int .u32 (depOf G p : Int), .int .u32 (jmpOf G p : Int), .int .u32 0] w7 tgr cvr) := by
            rw [hw7, HDP.out, HJE.out, HPP.out]
            exact toAside (S3.out.fr0 ⟨rfl, rfl, rfl, Nat.le_refl _, fun _ _ => rfl, fun _ _ _ => rfl⟩)
          rw [← hw7]
          clear hw7 PA S3 S2 a0 a2 a3 a4 a5 b4 bf
          have hdc : decide (pp + 1 ≠ 0 ∧ pp + 1 ≠ pp + 1) = false := by simp
          rw [hdc]
          have HPS : Aside (passG (addG G evb ty ky p) G.n = false) := (by rw [HPS0.out, HJE.out, HPP.out]; simp : passG (addG G evb ty ky p) G.n = false)
          clear hdc
          obtain ⟨ga7, x1, x2, x3⟩ := S7.out.g.gblk
          have y0 : w7.cell? ⟨gB, 0, none⟩ = some nv := by rw [cell_of_row w7 gB 0 ga7 39 (0, 0) x1]; exact x2
          have yf : w7.frozen? ⟨gB, 0, none⟩ = false := frozen_of_row w7 gB 0 ga7 39 x1
          have hgl7 : gB < w7.heap.size := (Array.getElem?_eq_some_iff.1 x1).1
          have htg7 : tgr gB = 2 := S7.out.g.gtag
          have n0 : w7.cell? ⟨w.heap.size, 0, none⟩ = some (.pointer (some ⟨evb, 0, none⟩)) := by rw [cell_of_row w7 w.heap.size 0 _ 49 (0, 0) S7.out.nb]; rfl
          have n1 : w7.cell? ⟨w.heap.size, 1, none⟩ = some (.slice none 0 0) := by rw [cell_of_row w7 w.heap.size 1 _ 49 (0, 0) S7.out.nb]; rfl
          have n2 : w7.cell? ⟨w.heap.size, 2, none⟩ = some (.int .u32 (p : Int)) := by rw [cell_of_row w7 w.heap.size 2 _ 49 (0, 0) S7.out.nb]; rfl
          have n3 : w7.cell? ⟨w.heap.size, 3, none⟩ = some (.int .u32 (depOf G p : Int)) := by rw [cell_of_row w7 w.heap.size 3 _ 49 (0, 0) S7.out.nb]; rfl
          have n4 : w7.cell? ⟨w.heap.size, 4, none⟩ = some (.int .u32 (jmpOf G p : Int)) := by rw [cell_of_row w7 w.heap.size 4 _ 49 (0, 0) S7.out.nb]; rfl
          have n5 : w7.cell? ⟨w.heap.size, 5, none⟩ = some (.int .u32 0) := by rw [cell_of_row w7 w.heap.size 5 _ 49 (0, 0) S7.out.nb]; rfl
          have hwl7 : w.heap.size < w7.heap.size := World.block_lt_of_cell? w7 _ n0
          have RW : Aside (RowF B0 (w7.alloc (.cells #[.pointer (some ⟨evb, 0, none⟩), .slice none 0 0, .int .u32 (p : Int), .int .u32 (depOf G p : Int), .int .u32 (jmpOf G p : Int), .int .u32 0] 49)).drew (nT tgr w7.heap.size 18) 6 49 6 nv G.n (nodeC G cvr)) := by
            have h := S7.out.g.nodes.fr (Fr.of_alloc (fun _ => False) w7 tgr (.cells #[.pointer (some ⟨evb, 0, none⟩), .slice none 0 0, .int .u32 (p : Int), .int .u32 (depOf G p : Int), .int .u32 (jmpOf G p : Int), .int .u32 0] 49) 18) (fun h => h)
            exact toAside (h.drewN 1)
          have HB7 : Aside (B0 ≤ w7.heap.size) := Nat.le_trans hB0 S7.out.fr.size
          obtain ⟨i9, qi, qz0, qz1, qz2⟩ := info_parts info49
          have hi := toAside qi
          have hz0 := toAside qz0
          have hz1 := toAside qz1
          have hz2 := toAside qz2
          clear qi qz0 qz1 qz2 x1 x2 x3
          go_wp2_with fail
          go_region_law (refine step_rowF (by rfl) _ _ _ (by rfl) i9 _ 48 Yba.underlying27 hi.out hz0.out hz1.out hz2.out rfl (by decide) (by rfl) RW.out ⟨w7.heap.size, 0, none⟩ 1 [.pointer (some ⟨evb, 0, none⟩), .slice none 0 0, .int .u32 (p : Int), .int .u32 (depOf G p : Int), .int .u32 (jmpOf G p : Int), .int .u32 0] (by rfl) rfl (World.news_of_block (cs := #[.pointer (some ⟨evb, 0, none⟩), .slice none 0 0, .int .u32 (p : Int), .int .u32 (depOf G p : Int), .int .u32 (jmpOf G p : Int), .int .u32 0]) (t := 49) (fr := (0, 0)) (heap_alloc_new w7 _)) (by intro u hu; simp at hu; rcases hu with rfl | rfl | rfl | rfl | rfl | rfl <;> rfl) (by unfold maxLen; omega) (by omega) (by have := HB7.out; simp; omega) (nodeC (addG G evb ty ky p) (upd cvr G.n (.slice none 0 0))) (nodeC_old _ _ _ _ _ _ _) (nodeC_new _ _ _ _ _ _ _) ?_; intro gg cap9 w9 hrow9 hfr9; have k5 : w9.cell? ⟨gB, 0, none⟩ = some nv := hfr9.cell (keepCell y0) (by show ¬ (nT tgr w7.heap.size 18 gB = 6); rw [nT_lt _ _ _ _ hgl7, htg7]; omega); have k6 : w9.frozen? ⟨gB, 0, none⟩ = false := (World.frozen?_of_block (hfr9.block gB (Nat.lt_of_lt_of_le hgl7 (World.grownBy_alloc w7 (.cells #[.pointer (some ⟨evb, 0, none⟩), .slice none 0 0, .int .u32 (p : Int), .int .u32 (depOf G p : Int), .int .u32 (jmpOf G p : Int), .int .u32 0] 49) none).size) (by show ¬ (nT tgr w7.heap.size 18 gB = 6); rw [nT_lt _ _ _ _ hgl7, htg7]; omega))).trans (keepFrozen yf hgl7))
          all_goals
            go_end0
            have F := ((Fr.of_alloc (fun T => T = 6) w7 tgr (.cells #[.pointer (some ⟨evb, 0, none⟩), .slice none 0 0, .int .u32 (p : Int), .int .u32 (depOf G p : Int), .int .u32 (jmpOf G p : Int), .int .u32 0] 49) 18).drewN 1).trans hfr9
            refine ⟨rfl, ?_⟩
            rw [← HN.out, ← HPE.out]
            obtain ⟨tg', nv2, mp2, cv2, hG, hF⟩ := S7.out.done hple hn evB HCB.out (F.mono fun _ q => Or.inl q) hrow9 ((S7.out.g.named.skip evb ty ky p HPS.out).fr F (by omega) (by omega)) (fun _ _ => rfl) (fun q => by rw [HPS.out] at q; cases q) HJ.out
            exact ⟨tg', nv2, mp2, cv2, nm, hG, hF, fun _ _ => rfl, fun q => by rw [HPS.out] at q; cases q⟩
end Go.Proofs.Ybulkxiu
