import Derived.Test.YbulkxhsLib
import Derived.Test.YbulkxhsComm
namespace Go.Proofs.Ybulkxhs
open Go.RowKit Go.Lib Go.Sort Go.Conc
set_option maxHeartbeats 800000 in
set_option maxRecDepth 100000 in
theorem take_any (B V cap g c s r : Nat) (x t : Int) (tm : Bool) (d : Array (Option Addr)) (w : World)
    (hx : w.cell? ⟨B, 12, none⟩ = some (.int .i64 x)) (hxf : w.frozen? ⟨B, 12, none⟩ = false) (hs : w.cell? ⟨B, 221, none⟩ = some (.slice (some ⟨V, 0, none⟩) d.size cap)) (hsf : w.frozen? ⟨B, 221, none⟩ = false)
    (hH : Holds Value.pointer w V 0 d) (hcap : d.size ≤ cap) (hm : cap ≤ 9223372036854775807) (h1 : 1 ≤ d.size) (hd : d[0]! = some ⟨g, 0, none⟩)
    (ht : w.cell? ⟨g, 0, none⟩ = some (.int .i64 t)) (hc : w.cell? ⟨g, 1, none⟩ = some (.chan (some c))) (hch : w.heap[c]? = some (.chan 1 #[] false s r tm))
    (n1 : B ≠ V) (n2 : g ≠ V) (n3 : g ≠ B) (n4 : c ≠ V) (n5 : c ≠ B) :
    Calls Yba.prog 7 #[.pointer (some ⟨B, 0, none⟩)] w fun e w' => e = .returned (.int .i64 t) ∧ w'.cell? ⟨B, 12, none⟩ = some (.int .i64 (wrap64 (x - 1))) ∧ w'.cell? ⟨B, 221, none⟩ = some (.slice (some ⟨V, 0, none⟩) (d.size - 1) cap) ∧
      (∀ j, j + 1 < d.size → w'.cell? ⟨V, j, none⟩ = some (.pointer d[j + 1]!)) ∧ w'.heap[c]? = some (.chan 1 #[.nilIface] false (s + 1) r tm) ∧ Only [B, V, c] w w' := by
  have q0 : w.cell? ⟨V, 0, none⟩ = some (.pointer (some ⟨g, 0, none⟩)) := by rw [(show w.cell? ⟨V, 0, none⟩ = some (.pointer d[0]!) from (hH 0 (by omega)).1), hd]
  refine calls_of_wpN Yba.func7 rfl ?_
  simp only [Yba.ntmps7, List.size_toArray, List.length_cons, List.length_nil, Nat.reduceAdd, Nat.reduceSub, Array.replicate_succ, Array.replicate_zero, List.push_toArray, List.append_toArray, List.nil_append, List.cons_append]
  refine wpN_seq_k fun K hK => ?_
  go_wp2
  refine wpN_seq_k fun K hK => ?_
  go_wp2
  refine wpN_seq_k fun K hK => ?_
  go_wp2_with fail
  refine (del_any V cap d w hH hcap hm h1).mono ?_
  rintro e w1 ⟨rfl, hv1, ho1⟩
  have s1 := (ho1.cell (p := ⟨B, 221, none⟩) (by simpa using n1)).trans hs
  have sf1 := (ho1.frozen (p := ⟨B, 221, none⟩) (by simpa using n1)).trans hsf
  have x1 := (ho1.cell (p := ⟨B, 12, none⟩) (by simpa using n1)).trans hx
  have xf1 := (ho1.frozen (p := ⟨B, 12, none⟩) (by simpa using n1)).trans hxf
  have t1 := (ho1.cell (p := ⟨g, 0, none⟩) (by simpa using n2)).trans ht
  have c1 := (ho1.cell (p := ⟨g, 1, none⟩) (by simpa using n2)).trans hc
  have ch1 := (ho1.block c (by simpa using n4)).trans hch
  clear hs hsf hx hxf ht hc hch q0 hH
  go_wp2
  have o2 := only_setCell w1 ⟨B, 221, none⟩ (.slice (some ⟨V, 0, none⟩) (d.size - 1) cap)
  have s2 : (w1.setCell ⟨B, 221, none⟩ (.slice (some ⟨V, 0, none⟩) (d.size - 1) cap)).cell? ⟨B, 221, none⟩ = some (.slice (some ⟨V, 0, none⟩) (d.size - 1) cap) := by
    exact World.cell?_setCell_same _ _ _ s1
  have x2 : (w1.setCell ⟨B, 221, none⟩ (.slice (some ⟨V, 0, none⟩) (d.size - 1) cap)).cell? ⟨B, 12, none⟩ = some (.int .i64 x) := by
    rw [World.cell?_setCell_other _ _ _ _ (by simp)]; exact x1
  have xf2 : (w1.setCell ⟨B, 221, none⟩ (.slice (some ⟨V, 0, none⟩) (d.size - 1) cap)).frozen? ⟨B, 12, none⟩ = false := by
    simp [xf1]
  generalize w1.setCell ⟨B, 221, none⟩ (.slice (some ⟨V, 0, none⟩) (d.size - 1) cap) = w2 at *
  have t2 := (o2.cell (p := ⟨g, 0, none⟩) (by simpa using n3)).trans t1
  have c2 := (o2.cell (p := ⟨g, 1, none⟩) (by simpa using n3)).trans c1
  have ch2 := (o2.block c (by simpa using n5)).trans ch1
  have hv2 : ∀ j, j + 1 < d.size → w2.cell? ⟨V, j, none⟩ = some (.pointer d[j + 1]!) := fun j hj => (o2.cell (p := ⟨V, j, none⟩) (by simpa using Ne.symm n1)).trans (hv1 j hj)
  have ho2 : Only [B, V, c] w w2 := (ho1.mono (by simp)).trans (o2.mono (by simp))
  clear hv1 ho1 o2 s1 sf1 x1 xf1 t1 c1 ch1
  refine wpN_seq_k fun K hK => ?_
  go_wp2_with fail
  refine (add_any B 12 x w2 x2 xf2).mono ?_
  rintro e w3 ⟨rfl, rfl⟩
  have o3 := only_setCell w2 ⟨B, 12, none⟩ (.int .i64 (wrap64 (x - 1)))
  have x3 : (w2.setCell ⟨B, 12, none⟩ (.int .i64 (wrap64 (x - 1)))).cell? ⟨B, 12, none⟩ = some (.int .i64 (wrap64 (x - 1))) := World.cell?_setCell_same _ _ _ x2
  have s3 : (w2.setCell ⟨B, 12, none⟩ (.int .i64 (wrap64 (x - 1)))).cell? ⟨B, 221, none⟩ = some (.slice (some ⟨V, 0, none⟩) (d.size - 1) cap) := by
    rw [World.cell?_setCell_other _ _ _ _ (by simp)]; exact s2
  generalize w2.setCell ⟨B, 12, none⟩ (.int .i64 (wrap64 (x - 1))) = w3 at *
  have t3 := (o3.cell (p := ⟨g, 0, none⟩) (by simpa using n3)).trans t2
  have c3 := (o3.cell (p := ⟨g, 1, none⟩) (by simpa using n3)).trans c2
  have ch3 := (o3.block c (by simpa using n5)).trans ch2
  have hv3 : ∀ j, j + 1 < d.size → w3.cell? ⟨V, j, none⟩ = some (.pointer d[j + 1]!) := fun j hj => (o3.cell (p := ⟨V, j, none⟩) (by simpa using Ne.symm n1)).trans (hv2 j hj)
  have ho3 : Only [B, V, c] w w3 := ho2.trans (o3.mono (by simp))
  clear hv2 ho2 o3 s2 x2 xf2 t2 c2 ch2
  go_wp2
  refine wpN_seq_k fun K hK => ?_
  go_wp2
  refine wpN_seq (wpN_region ?_)
  refine wpR_value rfl rfl (v := .pointer (some ⟨g, 0, none⟩)) (w₁ := w3) (by simp [go_sem]) ?_
  refine wpR_value rfl rfl (v := .pointer (some ⟨g, 0, none⟩)) (w₁ := w3) (by simp [go_sem]) ?_
  refine wpR_value rfl rfl (v := .pointer (some ⟨g, 1, none⟩)) (w₁ := w3) (by simp [go_sem]) ?_
  refine wpR_value rfl rfl (v := .chan (some c)) (w₁ := w3) (by simp [go_sem, c3]) ?_
  refine wpR_send rfl rfl (c := c) (cap := 1) (buf := #[]) (s := s) (r := r) (v := .nilIface) (z := .tuple #[]) (tm := tm) (w₁ := w3) (by simp [execOp, scase, Act.eval, Act.put]) ch3 (by simp) ?_
  refine wpR_end ?_
  have o4 : Only [c] w3 (w3.setChan c 1 (#[].push .nilIface) false (s + 1) r tm) := ⟨rfl, rfl, rfl, by simp [World.setChan], fun k hk => by simp only [World.setChan]; rw [Array.getElem?_setIfInBounds_ne (by simpa using Ne.symm (by simpa using hk))]⟩
  have ch4 : (w3.setChan c 1 (#[].push .nilIface) false (s + 1) r tm).heap[c]? = some (.chan 1 #[.nilIface] false (s + 1) r tm) := heap_setChan w3 c 1 _ false (s + 1) r tm (Array.getElem?_eq_some_iff.1 ch3).1
  generalize w3.setChan c 1 (#[].push .nilIface) false (s + 1) r tm = w4 at *
  have x4 := (o4.cell (p := ⟨B, 12, none⟩) (by simpa using Ne.symm n5)).trans x3
  have s4 := (o4.cell (p := ⟨B, 221, none⟩) (by simpa using Ne.symm n5)).trans s3
  have hv4 : ∀ j, j + 1 < d.size → w4.cell? ⟨V, j, none⟩ = some (.pointer d[j + 1]!) := fun j hj => (o4.cell (p := ⟨V, j, none⟩) (by simpa using Ne.symm n4)).trans (hv3 j hj)
  have ho4 : Only [B, V, c] w w4 := ho3.trans (o4.mono (by simp))
  clear hv3 ho3 o4 s3 x3 t3 c3 ch3
  refine wpN_of_wp ?_
  simp only [Act.put]
  go_wp2
  go_ret
  exact ⟨rfl, x4, s4, hv4, ch4, ho4⟩
end Go.Proofs.Ybulkxhs
