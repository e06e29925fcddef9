import Derived.Test.YbulkxiuDr
import Derived.Test.YbulkxiuPartB
namespace Go.Proofs.Ybulkxiu
open Go.RowKit Go.Lib
set_option maxRecDepth 1000000

theorem recC_new2 (evp : Nat → Option Nat) (i : Nat) (v : Value) (hv : evV (evp i) = v) : ∀ j, j < 11 → [v, Value.int .u64 0, .int .u32 0, .int .u8 0, .int .u8 0, .bool false, .bool false, .int .u32 0, .int .u32 (3 * (i : Int)), .int .u32 (3 * (i : Int) + 3), .int .u32 (sameN i : Int)][j]? = some (recC evp (i * 11 + j)) := fun j hj => by
  have h := recC_new evp i j hj
  rw [hv] at h
  have e1 : ((3 * i : Nat) : Int) = 3 * (i : Int) := by omega
  have e2 : ((3 * i + 3 : Nat) : Int) = 3 * (i : Int) + 3 := by omega
  rw [e1, e2] at h
  exact h
/-- The end of a step: the index is whole again. -/
theorem step_end {F : Fx} {w : World} {s : GS} {i : Nat} {wc w1 w2 w3 : World} {tg1 tg2 : Nat → Nat} {g1 c1 g2 c2 : Nat} {xa : Array Value} (R : DR F w s (i + 1) wc) (X : XI F.B0 wc s.tg F.xB F.mb s.nmx i s.recsV s.idbV s.evp)
    (F1 : Fr (fun T => T = 13) wc s.tg w1 tg1) (R1 : RowF F.B0 w1 tg1 13 5 1 (.slice (some ⟨g1, 0, none⟩) (3 * i + 3) c1) (3 * i + 3) idC) (F2 : Fr (fun T => T = 9) w1 tg1 w2 tg2) (R2 : RowF F.B0 w2 tg2 9 85 11 (.slice (some ⟨g2, 0, none⟩) (i + 1) c2) (i + 1) (recC s.evp))
    (HMV : MapV w3 77 .u64 F.mb (s.nmx + 1) fun y => if y = 97 + (i : Int) % 26 then some (Value.int .u32 ((i : Int) + 1)) else slotF i y) (HGR : w2.grownBy w3 (some F.mb)) (XH : w3.heap[F.xB]? = some (.cells xa 69 (0, 0))) (HXA : xa.size = 4 ∧ xa[0]? = some (.func (.func 9) #[] #[]) ∧ xa[1]? = some (.map (some F.mb))) :
    ∃ tg', BI F w { s with tg := tg', nmx := s.nmx + 1, recsV := .slice (some ⟨g2, 0, none⟩) (i + 1) c2, idbV := .slice (some ⟨g1, 0, none⟩) (3 * i + 3) c1 } (i + 1) ((((w3.setCell ⟨F.xB, 2, none⟩ (.slice (some ⟨w3.heap.size, 0, none⟩) 1 1)).setCell ⟨F.xB, 3, none⟩ (.slice (some ⟨w3.heap.size + 1, 0, none⟩) 1 1)).alloc (.cells #[.slice (some ⟨g2, 0, none⟩) (i + 1) c2] 70)).alloc (.cells #[.slice (some ⟨g1, 0, none⟩) (3 * i + 3) c1] 53)) := by
  obtain ⟨a0, b1, _⟩ := X.blk
  have tx1 : tg1 F.xB = 1 := (F1.tagOf b1).trans X.tx
  have h1 := F1.heap b1 (by rw [X.tx]; omega)
  have tx2 : tg2 F.xB = 1 := (F2.tagOf h1).trans tx1
  have h2 := F2.heap h1 (by rw [tx1]; omega)
  have m1 : F.mb < w1.heap.size := Nat.lt_of_lt_of_le X.map.lt F1.size
  have m2 : F.mb < w2.heap.size := Nat.lt_of_lt_of_le m1 F2.size
  have tm2 : tg2 F.mb = 5 := (F2.tag F.mb m1).trans ((F1.tag F.mb X.map.lt).trans X.tm)
  obtain ⟨tg3, F3⟩ : ∃ tg3, Fr (fun T => T = 5) w2 tg2 w3 tg3 := ⟨_, Fr.of_grown tg2 18 HGR (fun b hb => by cases hb; exact tm2)⟩
  have tx3 : tg3 F.xB = 1 := (F3.tagOf h2).trans tx2
  have tm3 : tg3 F.mb = 5 := (F3.tag F.mb m2).trans tm2
  obtain ⟨A, hA⟩ : ∃ A, A = (w3.setCell ⟨F.xB, 2, none⟩ (.slice (some ⟨w3.heap.size, 0, none⟩) 1 1)).setCell ⟨F.xB, 3, none⟩ (.slice (some ⟨w3.heap.size + 1, 0, none⟩) 1 1) := ⟨_, rfl⟩
  have FA : Fr (fun T => T = 1) w3 tg3 A tg3 := by rw [hA]; exact (Fr.of_set w3 tg3 _ _ tx3).trans (Fr.of_set _ tg3 _ _ tx3)
  have sA : A.heap.size = w3.heap.size := by rw [hA]; simp
  have hA1 : A.heap[F.xB]? = some (.cells ((xa.setIfInBounds 2 (.slice (some ⟨w3.heap.size, 0, none⟩) 1 1)).setIfInBounds 3 (.slice (some ⟨w3.heap.size + 1, 0, none⟩) 1 1)) 69 (0, 0)) := by
    rw [hA]; exact heap_setCell_same _ F.xB 3 _ 69 _ (heap_setCell_same w3 F.xB 2 xa 69 _ XH)
  rw [← hA]
  have FB := Fr.of_alloc (fun _ => False) A tg3 (.cells #[.slice (some ⟨g2, 0, none⟩) (i + 1) c2] 70) 0
  obtain ⟨tg4, ht4⟩ : ∃ tg4, tg4 = nT tg3 A.heap.size 0 := ⟨_, rfl⟩
  rw [← ht4] at FB
  obtain ⟨Bw, hB⟩ : ∃ Bw, Bw = A.alloc (.cells #[.slice (some ⟨g2, 0, none⟩) (i + 1) c2] 70) := ⟨_, rfl⟩
  have hBn : Bw.heap[w3.heap.size]? = some (.cells #[.slice (some ⟨g2, 0, none⟩) (i + 1) c2] 70 (0, 0)) := by rw [hB, ← sA]; exact heap_alloc_new _ _
  have sB : Bw.heap.size = w3.heap.size + 1 := by rw [hB]; simp [sA]
  rw [← hB] at FB ⊢
  have FC := Fr.of_alloc (fun _ => False) Bw tg4 (.cells #[.slice (some ⟨g1, 0, none⟩) (3 * i + 3) c1] 53) 0
  obtain ⟨tg5, ht5⟩ : ∃ tg5, tg5 = nT tg4 Bw.heap.size 0 := ⟨_, rfl⟩
  rw [← ht5] at FC
  have hCn := heap_alloc_new Bw (.cells #[.slice (some ⟨g1, 0, none⟩) (3 * i + 3) c1] 53)
  rw [sB] at hCn
  obtain ⟨W, hW⟩ : ∃ W, W = Bw.alloc (.cells #[.slice (some ⟨g1, 0, none⟩) (3 * i + 3) c1] 53) := ⟨_, rfl⟩
  rw [← hW] at FC hCn ⊢
  have hBW := FC.heap hBn (fun q => q)
  have FT : Fr (fun T => T = 1 ∨ T = 5 ∨ T = 9 ∨ T = 13) wc s.tg W tg5 := ((((((F1.mono fun _ q => by omega).trans (F2.mono fun _ q => by omega)).trans (F3.mono fun _ q => by omega)).trans (FA.mono fun _ q => by omega)).trans (FB.mono fun _ q => q.elim)).trans (FC.mono fun _ q => q.elim))
  have D := R.fr FT (fun T q => by omega)
  refine ⟨tg5, DR.bi ⟨D.g, D.m, D.l, D.num, D.nde, D.own, D.cb16, D.cbf, D.ni, D.il, D.len, D.bel, D.sz, D.low, D.nk⟩ (XI.next (rb := w3.heap.size) (cr := 1) (ib := w3.heap.size + 1) (ci := 1) (FC.heap (FB.heap hA1 (fun q => q)) (fun q => q)) (by simp [HXA.1]) (by simpa [Array.getElem?_setIfInBounds] using HXA.2.1) (by simpa [Array.getElem?_setIfInBounds] using HXA.2.2) (by simp [HXA.1]) (by simp [HXA.1]) (by rw [cell_of_row W w3.heap.size 0 _ 70 (0, 0) hBW]; rfl) ?_ (by rw [cell_of_row W (w3.heap.size + 1) 0 _ 53 (0, 0) hCn]; rfl) ?_ ?_ X.bx ((((R2.fr F3 (by omega)).fr FA (by omega)).fr FB (fun q => q)).fr FC (fun q => q)) ?_ ?_ ?_ X.bm X.le)⟩
  · show tg5 w3.heap.size = 0
    rw [ht5, nT_lt _ _ _ _ (by omega), ht4, nT_ge _ _ _ _ (by omega)]
  · show tg5 (w3.heap.size + 1) = 0
    rw [ht5, nT_ge _ _ _ _ (by omega)]
  · exact (FC.tagOf (FB.heap hA1 (fun q => q))).trans ((FB.tagOf hA1).trans tx3)
  · have r := ((((R1.fr F2 (by omega)).fr F3 (by omega)).fr FA (by omega)).fr FB (fun q => q)).fr FC (fun q => q)
    rw [show 3 * (i + 1) = 3 * i + 3 by omega]; exact r
  · have e := slot_upd i
    rw [show 97 + ((i % 26 : Nat) : Int) = 97 + (i : Int) % 26 by omega] at e
    rw [e] at HMV
    have l3 := HMV.lt
    refine HMV.of ?_
    rw [FC.block _ (by omega) (fun q => q), FB.block _ (by omega) (fun q => q), FA.block _ l3 (by rw [tm3]; omega)]
  · have l3 := HMV.lt
    exact (FC.tag _ (by omega)).trans ((FB.tag _ (by omega)).trans ((FA.tag _ l3).trans tm3))

theorem evV_ptr (o : Option Nat) : ∃ p, evV o = .pointer p := by cases o <;> exact ⟨_, rfl⟩

set_option maxHeartbeats 8000000 in
theorem partD (i : Nat) (code : Code) (hcode : (Yba.f5.body.bind (aftCond 130)).join = some code) (w : World) (sb so len cap : Nat) (F : Fx) (hi : i < 512) (s : GS) (wc : World) (R : Aside (DR F w s (i + 1) wc)) (X : Aside (XI F.B0 wc s.tg F.xB F.mb s.nmx i s.recsV s.idbV s.evp))
    (c1 c2 c3 c25 c29 c34 c35 c36 c37 c38 c39 c40 c41 c42 c43 c44 c45 c46 c47 c48 c49 c350 c351 b16 b17 b18 b19 b20 b21 b23 b24 b26 b27 b28 b30 b31 b32 b33 b52 b53 b54 b55 b56 b57 b58 b59 b60 b61 b62 b63 b64 b65 b66 b67 b68 b69 b70 b71 b72 b73 b74 b75 b76 b77 b78 b79 b80 b81 b82 b83 b84 b85 b86 b87 b88 b89 b90 b91 b92 b93 b94 b95 b96 b97 b98 b99 b100 b101 b102 b103 b104 b105 b106 b107 b108 b109 b110 b111 b112 b113 b114 b115 b116 b117 b118 b119 b120 b121 b122 b123 b124 b125 b126 b127 b128 b129 b130 b131 b132 b133 b134 b135 b136 b137 b138 b139 b140 b141 b142 b143 b144 b145 b146 b147 b148 b149 b150 b151 b152 b153 b154 b155 b156 b157 b158 b159 b160 b161 b162 b163 b164 b165 b166 b167 b168 b169 b170 b171 b172 b173 b174 b175 b176 b177 b178 b179 b180 b181 b182 b183 b184 b185 b186 b187 b188 b189 b190 b191 b192 b193 b194 b195 b196 b197 b198 b199 b200 b201 b202 b203 b204 b205 b206 b207 b208 b209 b210 b211 b212 b213 b214 b215 b216 b217 b218 b219 b220 b221 b222 b223 b224 b225 b226 b227 b228 b229 b230 b231 b232 b233 b234 b235 b236 b237 b238 b239 b240 b241 b242 b243 b244 b245 b246 b247 b248 b249 b250 b251 b252 b253 b254 b255 b256 b257 b258 b259 b260 b261 b262 b263 b264 b265 b266 b267 b268 b269 b270 b271 b272 b273 b274 b275 b276 b277 b278 b279 b280 b281 b282 b283 b284 b285 b286 b287 b288 b289 b290 b291 b292 b293 b294 b295 b296 b297 b298 b299 b300 b301 b302 b303 b304 b305 b306 b307 b308 b309 b310 b311 b312 b313 b314 b315 b316 b317 b318 b319 b320 b321 b322 b323 b324 b325 b326 b327 b328 b329 b330 b331 b332 b333 b334 b335 b336 b337 b338 b339 b340 b341 b342 b343 b344 b345 b346 b347 b348 b349 : Value) (KB KK K1 : Act → World → Prop) (post : Ending → World → Prop)
    (hE : ∀ (e32 e33 e306 e307 e308 e309 e310 e311 e312 e313 e314 e315 e316 e317 e318 e319 e320 e321 e322 e323 e324 e325 e326 e327 e328 e329 e330 e331 e332 e333 e334 e335 e336 e337 e338 e339 e340 e341 e342 e343 e344 e345 e346 e347 e348 : Value) (s' : GS) (w' : World), BI F w s' (i + 1) w' → KB ⟨#[.slice (some ⟨sb, so, none⟩) len cap, c1, c2, c3, .pointer (some ⟨F.tyB, 0, none⟩), .pointer (some ⟨F.kyB, 0, none⟩), .pointer (some ⟨F.gB, 0, none⟩), .pointer (some ⟨F.xB, 0, none⟩), .pointer (some ⟨F.mB, 0, none⟩), s'.recsV, s'.idbV, .slice (some ⟨F.sE, 0, none⟩) len len, .slice (some ⟨F.nO, 0, none⟩) len len, .int .i64 (i : Int), .pointer (some ⟨sb, so + i * 4, none⟩), .string (idS i), b16, b17, b18, b19, b20, b21, evV (s.evp i), b23, b24, c25, b26, b27, b28, c29, b30, b31, e32, e33, c34, c35, c36, c37, c38, c39, c40, c41, c42, c43, c44, c45, c46, c47, c48, c49, .int .i64 (len : Int), .int .i64 (i : Int), b52, b53, b54, b55, b56, b57, b58, b59, b60, b61, b62, b63, b64, b65, b66, b67, b68, b69, b70, b71, b72, b73, b74, b75, b76, b77, b78, b79, b80, b81, b82, b83, b84, b85, b86, b87, b88, b89, b90, b91, b92, b93, b94, b95, b96, b97, b98, b99, b100, b101, b102, b103, b104, b105, b106, b107, b108, b109, b110, b111, b112, b113, b114, b115, b116, b117, b118, b119, b120, b121, b122, b123, b124, b125, b126, b127, b128, b129, b130, b131, b132, b133, b134, b135, b136, b137, b138, b139, b140, b141, b142, b143, b144, b145, b146, b147, b148, b149, b150, b151, b152, b153, b154, b155, b156, b157, b158, b159, b160, b161, b162, b163, b164, b165, b166, b167, b168, b169, b170, b171, b172, b173, b174, b175, b176, b177, b178, b179, b180, b181, b182, b183, b184, b185, b186, b187, b188, b189, b190, b191, b192, b193, b194, b195, b196, b197, b198, b199, b200, b201, b202, b203, b204, b205, b206, b207, b208, b209, b210, b211, b212, b213, b214, b215, b216, b217, b218, b219, b220, b221, b222, b223, b224, b225, b226, b227, b228, b229, b230, b231, b232, b233, b234, b235, b236, b237, b238, b239, b240, b241, b242, b243, b244, b245, b246, b247, b248, b249, b250, b251, b252, b253, b254, b255, b256, b257, b258, b259, b260, b261, b262, b263, b264, b265, b266, b267, b268, b269, b270, b271, b272, b273, b274, b275, b276, b277, b278, b279, b280, b281, b282, b283, b284, b285, b286, b287, b288, b289, b290, b291, b292, b293, b294, b295, b296, b297, b298, b299, b300, b301, b302, b303, b304, b305, e306, e307, e308, e309, e310, e311, e312, e313, e314, e315, e316, e317, e318, e319, e320, e321, e322, e323, e324, e325, e326, e327, e328, e329, e330, e331, e332, e333, e334, e335, e336, e337, e338, e339, e340, e341, e342, e343, e344, e345, e346, e347, e348, b349, c350, c351], []⟩ w') :
    let Q' : Exit → Act → World → Prop := bodyPost Yba.prog Yba.f5 post
    Code.wp Yba.prog code (Exit.inBlock 1 (Exit.then KB (Exit.then KK (Exit.inBlock 0 (Exit.then K1 Q'))))) ⟨#[.slice (some ⟨sb, so, none⟩) len cap, c1, c2, c3, .pointer (some ⟨F.tyB, 0, none⟩), .pointer (some ⟨F.kyB, 0, none⟩), .pointer (some ⟨F.gB, 0, none⟩), .pointer (some ⟨F.xB, 0, none⟩), .pointer (some ⟨F.mB, 0, none⟩), s.recsV, s.idbV, .slice (some ⟨F.sE, 0, none⟩) len len, .slice (some ⟨F.nO, 0, none⟩) len len, .int .i64 (i : Int), .pointer (some ⟨sb, so + i * 4, none⟩), .string (idS i), b16, b17, b18, b19, b20, b21, evV (s.evp i), b23, b24, c25, b26, b27, b28, c29, b30, b31, b32, b33, c34, c35, c36, c37, c38, c39, c40, c41, c42, c43, c44, c45, c46, c47, c48, c49, .int .i64 (len : Int), .int .i64 (i : Int), b52, b53, b54, b55, b56, b57, b58, b59, b60, b61, b62, b63, b64, b65, b66, b67, b68, b69, b70, b71, b72, b73, b74, b75, b76, b77, b78, b79, b80, b81, b82, b83, b84, b85, b86, b87, b88, b89, b90, b91, b92, b93, b94, b95, b96, b97, b98, b99, b100, b101, b102, b103, b104, b105, b106, b107, b108, b109, b110, b111, b112, b113, b114, b115, b116, b117, b118, b119, b120, b121, b122, b123, b124, b125, b126, b127, b128, b129, b130, b131, b132, b133, b134, b135, b136, b137, b138, b139, b140, b141, b142, b143, b144, b145, b146, b147, b148, b149, b150, b151, b152, b153, b154, b155, b156, b157, b158, b159, b160, b161, b162, b163, b164, b165, b166, b167, b168, b169, b170, b171, b172, b173, b174, b175, b176, b177, b178, b179, b180, b181, b182, b183, b184, b185, b186, b187, b188, b189, b190, b191, b192, b193, b194, b195, b196, b197, b198, b199, b200, b201, b202, b203, b204, b205, b206, b207, b208, b209, b210, b211, b212, b213, b214, b215, b216, b217, b218, b219, b220, b221, b222, b223, b224, b225, b226, b227, b228, b229, b230, b231, b232, b233, b234, b235, b236, b237, b238, b239, b240, b241, b242, b243, b244, b245, b246, b247, b248, b249, b250, b251, b252, b253, b254, b255, b256, b257, b258, b259, b260, b261, b262, b263, b264, b265, b266, b267, b268, b269, b270, b271, b272, b273, b274, b275, b276, b277, b278, b279, b280, b281, b282, b283, b284, b285, b286, b287, b288, b289, b290, b291, b292, b293, b294, b295, b296, b297, b298, b299, b300, b301, b302, b303, b304, b305, b306, b307, b308, b309, b310, b311, b312, b313, b314, b315, b316, b317, b318, b319, b320, b321, b322, b323, b324, b325, b326, b327, b328, b329, b330, b331, b332, b333, b334, b335, b336, b337, b338, b339, b340, b341, b342, b343, b344, b345, b346, b347, b348, b349, c350, c351], []⟩ wc := by
  intro Q'
  conv at hcode => lhs; whnf
  injection hcode with hcode
  subst hcode
  have HE := toAside hE
  clear hE
  obtain ⟨ia, ic, hiv, _⟩ := X.out.idb.form
  obtain ⟨ra, rc, hrv, _⟩ := X.out.recs.form
  obtain ⟨tA, qi, qz0, qz1, qz2⟩ := info_parts info5
  have hiA := toAside qi
  have hz0A := toAside qz0
  have hz1A := toAside qz1
  have hz2A := toAside qz2
  clear qi qz0 qz1 qz2
  obtain ⟨tB, qi, qz0, qz1, qz2⟩ := info_parts info85
  have hiB := toAside qi
  have hz0B := toAside qz0
  have hz1B := toAside qz1
  have hz2B := toAside qz2
  clear qi qz0 qz1 qz2
  obtain ⟨is1, is2⟩ := idS_cells i hi
  have HB0 : Aside (F.B0 ≤ wc.heap.size) := R.out.sz
  have RI := toAside X.out.idb
  rw [hiv] at RI ⊢
  go_wp2_with (first | (at_builtin; refine wpList_rowFs rfl (.tmp 308) (.tmp 309) 53 9 rfl tA Yba.underlying53 Yba.underlying9 hiA.out hz0A.out hz1A.out hz2A.out rfl RI.out (idS i) rfl (by rw [is1]; omega) (by rw [is1]; omega) HB0.out idC (fun _ _ => rfl) (fun j hj => is2 j (by rw [is1] at hj; exact hj)) ?_; intro g1 c1a w1 r1 f1; rw [is1] at r1 ⊢; obtain ⟨tg1, F1, R1⟩ : ∃ tg1, Aside (Fr (fun T => T = 13) wc s.tg w1 tg1) ∧ Aside (RowF F.B0 w1 tg1 13 5 1 (.slice (some ⟨g1, 0, none⟩) (3 * i + 3) c1a) (3 * i + 3) idC) := ⟨_, f1, r1⟩; clear r1 f1 RI))
  refine (show Calls Yba.prog 9 #[.string (idS i)] w1 _ from hash_three 101 (97 + ((i / 26 : Nat) : Int)) (97 + ((i % 26 : Nat) : Int)) w1 (by omega) (by omega)).mono ?_
  rintro e w2 ⟨rfl, hw2⟩
  dsimp only
  subst hw2
  have X1 := toAside (X.out.map.of (w' := w1) (F1.out.block F.mb X.out.map.lt (by rw [X.out.tm]; omega)))
  obtain ⟨xa, xb1, xb2, xb3, xb4, xb5⟩ := X.out.blk
  have xh1 := F1.out.heap xb1 (by rw [X.out.tx]; omega)
  have XH := toAside xh1
  have cx1 : w1.cell? ⟨F.xB, 1, none⟩ = some (.map (some F.mb)) := by rw [cell_of_row w1 F.xB 1 xa 69 (0, 0) xh1]; exact xb4
  have hwf : (Lit.int .u64 (97 + ((i % 26 : Nat) : Int))).wf = true := by
    simp only [Lit.wf, Bool.and_eq_true, decide_eq_true_eq]
    exact ⟨by show (0 : Int) ≤ _; omega, by show _ ≤ (18446744073709551615 : Int); omega⟩
  have lk := X1.out.look Yba.underlying77 Yba.underlying65 (Yba.zeroValue45 _) hwf
  rw [slot_look, show (97 + ((i % 26 : Nat) : Int)) = 97 + (i : Int) % 26 by omega] at lk
  have wv1 : IntKind.u32.wrap (3 * (i : Int)) = 3 * (i : Int) := by rw [IntKind.wrap_u32]; omega
  have wv2 : IntKind.u32.wrap (3 * (i : Int) + 3) = 3 * (i : Int) + 3 := by rw [IntKind.wrap_u32]; omega
  obtain ⟨p, hp⟩ := evV_ptr (s.evp i)
  have HP : Hid (evV (s.evp i) = .pointer p) := hp
  rw [hp]
  have RR : Aside (RowF F.B0 (w1.alloc (.cells #[.pointer p, .int .u64 0, .int .u32 0, .int .u8 0, .int .u8 0, .bool false, .bool false, .int .u32 0, .int .u32 (3 * (i : Int)), .int .u32 (3 * (i : Int) + 3), .int .u32 (sameN i : Int)] 85)) (nT tg1 w1.heap.size 18) 9 85 11 (.slice ra i rc) i (recC s.evp)) := by
    have h := (X.out.recs.fr F1.out (by omega)).fr (Fr.of_alloc (fun _ => False) w1 tg1 (.cells #[.pointer p, .int .u64 0, .int .u32 0, .int .u8 0, .int .u8 0, .bool false, .bool false, .int .u32 0, .int .u32 (3 * (i : Int)), .int .u32 (3 * (i : Int) + 3), .int .u32 (sameN i : Int)] 85) 18) (fun q => q)
    rw [hrv] at h; exact h
  have HB1 : Aside (F.B0 ≤ (w1.alloc (.cells #[.pointer p, .int .u64 0, .int .u32 0, .int .u8 0, .int .u8 0, .bool false, .bool false, .int .u32 0, .int .u32 (3 * (i : Int)), .int .u32 (3 * (i : Int) + 3), .int .u32 (sameN i : Int)] 85)).heap.size) := (by have h1 := HB0.out; have h2 := F1.out.size; simp; omega : F.B0 ≤ (w1.alloc (.cells #[.pointer p, .int .u64 0, .int .u32 0, .int .u8 0, .int .u8 0, .bool false, .bool false, .int .u32 0, .int .u32 (3 * (i : Int)), .int .u32 (3 * (i : Int) + 3), .int .u32 (sameN i : Int)] 85)).heap.size)
  have NW := toAside (recC_new2 s.evp i (.pointer p) hp)
  have HLK := toAside lk
  have tx1 : tg1 F.xB = 1 := (F1.out.tagOf xb1).trans X.out.tx
  have tm1 : tg1 F.mb = 5 := (F1.out.tag F.mb X.out.map.lt).trans X.out.tm
  have HWF : Aside ((Lit.int .u64 (97 + (i : Int) % 26)).wf = true) := (by rw [show 97 + (i : Int) % 26 = 97 + ((i % 26 : Nat) : Int) by omega]; exact hwf : (Lit.int .u64 (97 + (i : Int) % 26)).wf = true)
  have wv3 : IntKind.u32.wrap ((i : Int) + 1) = (i : Int) + 1 := by rw [IntKind.wrap_u32]; omega
  have HNM : Aside (s.nmx < maxLen) := (by have := X.out.le; unfold maxLen; omega : s.nmx < maxLen)
  obtain ⟨xv2, hxv2⟩ : ∃ u, xa[2]? = some u := ⟨_, Array.getElem?_eq_getElem (by omega)⟩
  obtain ⟨xv3, hxv3⟩ : ∃ u, xa[3]? = some u := ⟨_, Array.getElem?_eq_getElem (by omega)⟩
  have HXA := toAside (⟨xb2, xb3, xb4⟩ : _ ∧ _ ∧ _)
  have HX2 := toAside hxv2
  have HX3 := toAside hxv3
  clear hp hwf xb1 xb5 xh1 xb2 xb3 xb4 hxv2 hxv3
  go_wp2_with (first | (at_builtin; refine wpList_rowF rfl (.tmp 313) (.tmp 329) 70 rfl tB _ 40 Yba.underlying70 hiB.out hz0B.out hz1B.out hz2B.out rfl (by decide) rfl RR.out ⟨_, 0, none⟩ 1 [.pointer p, .int .u64 0, .int .u32 0, .int .u8 0, .int .u8 0, .bool false, .bool false, .int .u32 0, .int .u32 (3 * (i : Int)), .int .u32 (3 * (i : Int) + 3), .int .u32 (sameN i : Int)] rfl rfl (World.news_of_block (cs := #[.pointer p, .int .u64 0, .int .u32 0, .int .u8 0, .int .u8 0, .bool false, .bool false, .int .u32 0, .int .u32 (3 * (i : Int)), .int .u32 (3 * (i : Int) + 3), .int .u32 (sameN i : Int)]) (t := 85) (fr := (0, 0)) (heap_alloc_new w1 _)) (by intro u hu; simp at hu; rcases hu with rfl | rfl | rfl | rfl | rfl | rfl | rfl | rfl | rfl | rfl | rfl <;> rfl) (by unfold maxLen; omega) (by omega) HB1.out (recC s.evp) (fun _ _ => rfl) NW.out ?_; intro g2 c2a w2 r2 f2; obtain ⟨tg2, F2, R2⟩ : ∃ tg2, Aside (Fr (fun T => T = 9) w1 tg1 w2 tg2) ∧ Aside (RowF F.B0 w2 tg2 9 85 11 (.slice (some ⟨g2, 0, none⟩) (i + 1) c2a) (i + 1) (recC s.evp)) := ⟨_, (Fr.of_alloc (fun T => T = 9) w1 tg1 (.cells #[.pointer p, .int .u64 0, .int .u32 0, .int .u8 0, .int .u8 0, .bool false, .bool false, .int .u32 0, .int .u32 (3 * (i : Int)), .int .u32 (3 * (i : Int) + 3), .int .u32 (sameN i : Int)] 85) 18).trans f2, r2⟩; have xh2 := F2.out.heap XH.out (by rw [tx1]; omega); have cx2 : w2.cell? ⟨F.xB, 1, none⟩ = some (.map (some F.mb)) := (by rw [cell_of_row w2 F.xB 1 xa 69 (0, 0) xh2]; exact HXA.out.2.2); obtain ⟨w3, hup, hMV, hgr⟩ := (X1.out.of (w' := w2) (F2.out.block F.mb X1.out.lt (by rw [tm1]; omega))).update Yba.underlying77 Yba.underlying65 HNM.out HWF.out (.int .u32 ((i : Int) + 1)); have xh3 : w3.heap[F.xB]? = some (.cells xa 69 (0, 0)) := (hgr.block F.xB (Array.getElem?_eq_some_iff.1 xh2).1 (fun e => by have e2 : tg1 F.xB = tg1 F.mb := congrArg tg1 (Option.some.inj e); omega)).trans xh2; have cx3 : w3.cell? ⟨F.xB, 2, none⟩ = some xv2 := (by rw [cell_of_row w3 F.xB 2 xa 69 (0, 0) xh3]; exact HX2.out); have cx4 : w3.cell? ⟨F.xB, 3, none⟩ = some xv3 := (by rw [cell_of_row w3 F.xB 3 xa 69 (0, 0) xh3]; exact HX3.out); have fx3 : ∀ o, w3.frozen? ⟨F.xB, o, none⟩ = false := (fun o => frozen_of_row w3 F.xB o xa 69 xh3); have hxl3 : F.xB < w3.heap.size := (Array.getElem?_eq_some_iff.1 xh3).1; have XH3 := toAside xh3; have HMV := toAside hMV; have HGR := toAside hgr; clear r2 f2 RR xh2 xh3 hMV hgr))
  obtain ⟨tg', hBI⟩ := step_end R.out X.out F1.out R1.out F2.out R2.out HMV.out HGR.out XH3.out HXA.out
  rw [HP.out] at HE
  exact HE.out _ _ _ _ _ _ _ _ _ _ _ _ _ _ _ _ _ _ _ _ _ _ _ _ _ _ _ _ _ _ _ _ _ _ _ _ _ _ _ _ _ _ _ _ _  _ _ hBI
end Go.Proofs.Ybulkxiu
