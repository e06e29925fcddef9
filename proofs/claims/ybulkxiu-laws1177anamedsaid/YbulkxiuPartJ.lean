import Derived.Test.YbulkxiuPartI
namespace Go.Proofs.Ybulkxiu
open Go.RowKit Go.Lib
set_option maxRecDepth 1000000
def atReg (n : Nat) : Code → Option Code
  | .region m o d => if m == n then some (.region m o d) else none
  | .seq a b => match atReg n a with
    | some c => some c
    | none => atReg n b
  | .loop c => atReg n c
  | .block _ c => atReg n c
  | .scope c => atReg n c
  | .cond _ a b => match atReg n a with
    | some c => some c
    | none => atReg n b
  | _ => none
theorem MI.citeAt {B0 : Nat} {w : World} {tg : Nat → Nat} {mB : Nat} {V : MVs} {G : PG} {cvm : Nat → Value} {cbm : Nat → List Nat} {ovm : Nat → Value} {own : Nat → List Nat} (h : MI B0 w tg mB V G cvm cbm ovm own) {q : Nat} (hq : q < G.n) : ∃ cB cC, V.cV = .slice (some ⟨cB, 0, none⟩) G.n cC ∧ w.cell? ⟨mB, 4, none⟩ = some (.slice (some ⟨cB, 0, none⟩) G.n cC) ∧ w.cell? ⟨cB, q, none⟩ = some (cvm q) ∧ w.frozen? ⟨cB, q, none⟩ = false ∧ tg cB = 23 ∧ tg mB = 3 := by
  obtain ⟨a, a1, a2, a3, a4, a5, a6, a7⟩ := h.blk
  obtain ⟨ad, c, h1, h2, h3⟩ := h.cbr.form
  obtain ⟨b, rfl, _, _, ht, h4, h5⟩ := h3 (by omega)
  exact ⟨b, c, h1, by rw [cell_of_row w mB 4 a 44 (0, 0) a1, a7, h1], h4 q (by omega), h5 q, ht, h.tm⟩
set_option maxHeartbeats 16000000 in
theorem partJ (code : Code) (hcode : Yba.f5.body.bind (atReg 39) = some code) (B0 mB : Nat) (V : MVs) (G : PG) (cvm : Nat → Value) (cbm : Nat → List Nat) (ovm : Nat → Value) (own : Nat → List Nat) (tgy : Nat → Nat) (wz : World) (q : Nat) (hqn : q < G.n) (hsm : G.n ≤ 512) (hlen : (cbm q).length ≤ 20000) (hB : B0 ≤ wz.heap.size) (M : Aside (MI B0 wz tgy mB V G cvm cbm ovm own))
    (b0 b1 b2 b3 b4 b5 b6 b7 b9 b10 b11 b12 b13 b14 b15 b16 b17 b18 b19 b20 b21 b22 b24 b25 b26 b28 b29 b30 b31 b32 b33 b34 b35 b36 b37 b38 b39 b40 b41 b42 b43 b44 b45 b46 b47 b48 b49 b50 b51 b52 b53 b54 b55 b56 b57 b58 b59 b60 b61 b62 b63 b64 b65 b66 b67 b68 b69 b70 b71 b72 b73 b74 b75 b76 b77 b78 b79 b80 b81 b82 b83 b84 b85 b86 b87 b88 b89 b90 b91 b92 b93 b94 b95 b96 b97 b98 b99 b100 b101 b102 b103 b104 b105 b106 b107 b108 b109 b110 b111 b112 b113 b114 b115 b116 b117 b118 b119 b120 b121 b122 b123 b124 b125 b126 b127 b128 b129 b130 b131 b132 b133 b134 b135 b136 b137 b138 b139 b140 b141 b142 b143 b144 b145 b146 b147 b148 b149 b150 b151 b152 b153 b154 b155 b156 b157 b158 b159 b160 b161 b162 b163 b164 b165 b166 b167 b168 b169 b170 b171 b172 b173 b174 b175 b176 b177 b178 b179 b180 b181 b182 b183 b184 b185 b186 b187 b188 b189 b190 b191 b192 b193 b194 b195 b196 b197 b198 b199 b200 b201 b202 b203 b204 b205 b206 b207 b208 b209 b210 b211 b212 b213 b214 b215 b216 b217 b218 b219 b220 b221 b222 b223 b224 b225 b226 b227 b228 b229 b230 b231 b232 b233 b234 b235 b236 b237 b238 b239 b240 b241 b242 b243 b244 b245 b246 b247 b248 b249 b250 b251 b252 b253 b254 b255 b256 b257 b258 b259 b260 b261 b262 b263 b264 b265 b266 b267 b268 b269 b270 b271 b272 b273 b274 b275 b276 b277 b278 b279 b280 b281 b282 b283 b284 b285 b286 b287 b288 b289 b290 b291 b292 b293 b294 b295 b296 b297 b298 b299 b300 b301 b302 b303 b304 b305 b306 b307 b308 b309 b310 b311 b312 b313 b314 b315 b316 b317 b318 b319 b320 b321 b322 b323 b324 b325 b326 b327 b328 b329 b330 b331 b332 b333 b334 b335 b336 b337 b338 b339 b340 b341 b342 b343 b344 b345 b346 b347 b348 b349 b350 b351 : Value) (K K5 K4 K3 KC KB KK K1 : Act → World → Prop) (post : Ending → World → Prop)
    (hQ : ∀ (y157 y158 y159 y160 y161 y162 y163 y164 y165 y166 y167 y168 y169 y170 y171 y172 y173 y174 : Value) (w6 : World) (tg6 : Nat → Nat) (cv6 : Nat → Value), Aside (MI B0 w6 tg6 mB V G cv6 (upd cbm q (cbm q ++ [G.n + 1])) ovm own) → Aside (Fr (fun T => T % 4 = 3) wz tgy w6 tg6) → K ⟨#[b0, b1, b2, b3, b4, b5, b6, b7, .pointer (some ⟨mB, 0, none⟩), b9, b10, b11, b12, b13, b14, b15, b16, b17, b18, b19, b20, b21, b22, .int .u32 ((G.n : Int) + 1), b24, b25, b26, .int .u32 ((q : Int) + 1), b28, b29, b30, b31, b32, b33, b34, b35, b36, b37, b38, b39, b40, b41, b42, b43, b44, b45, b46, b47, b48, b49, b50, b51, b52, b53, b54, b55, b56, b57, b58, b59, b60, b61, b62, b63, b64, b65, b66, b67, b68, b69, b70, b71, b72, b73, b74, b75, b76, b77, b78, b79, b80, b81, b82, b83, b84, b85, b86, b87, b88, b89, b90, b91, b92, b93, b94, b95, b96, b97, b98, b99, b100, b101, b102, b103, b104, b105, b106, b107, b108, b109, b110, b111, b112, b113, b114, b115, b116, b117, b118, b119, b120, b121, b122, b123, b124, b125, b126, b127, b128, b129, b130, b131, b132, b133, b134, b135, b136, b137, b138, b139, b140, b141, b142, b143, b144, b145, b146, b147, b148, b149, b150, b151, b152, b153, b154, b155, b156, y157, y158, y159, y160, y161, y162, y163, y164, y165, y166, y167, y168, y169, y170, y171, y172, y173, y174, b175, b176, b177, b178, b179, b180, b181, b182, b183, b184, b185, b186, b187, b188, b189, b190, b191, b192, b193, b194, b195, b196, b197, b198, b199, b200, b201, b202, b203, b204, b205, b206, b207, b208, b209, b210, b211, b212, b213, b214, b215, b216, b217, b218, b219, b220, b221, b222, b223, b224, b225, b226, b227, b228, b229, b230, b231, b232, b233, b234, b235, b236, b237, b238, b239, b240, b241, b242, b243, b244, b245, b246, b247, b248, b249, b250, b251, b252, b253, b254, b255, b256, b257, b258, b259, b260, b261, b262, b263, b264, b265, b266, b267, b268, b269, b270, b271, b272, b273, b274, b275, b276, b277, b278, b279, b280, b281, b282, b283, b284, b285, b286, b287, b288, b289, b290, b291, b292, b293, b294, b295, b296, b297, b298, b299, b300, b301, b302, b303, b304, b305, b306, b307, b308, b309, b310, b311, b312, b313, b314, b315, b316, b317, b318, b319, b320, b321, b322, b323, b324, b325, b326, b327, b328, b329, b330, b331, b332, b333, b334, b335, b336, b337, b338, b339, b340, b341, b342, b343, b344, b345, b346, b347, b348, b349, b350, b351], []⟩ w6) :
    let Q' : Exit → Act → World → Prop := bodyPost Yba.prog Yba.f5 post
    Code.wp Yba.prog code (Exit.then K (Exit.inBlock 5 (Exit.then K5 (Exit.then K4 (Exit.inBlock 4 (Exit.then K3 (Exit.then KC (Exit.inBlock 1 (Exit.then KB (Exit.then KK (Exit.inBlock 0 (Exit.then K1 Q')))))))))))) ⟨#[b0, b1, b2, b3, b4, b5, b6, b7, .pointer (some ⟨mB, 0, none⟩), b9, b10, b11, b12, b13, b14, b15, b16, b17, b18, b19, b20, b21, b22, .int .u32 ((G.n : Int) + 1), b24, b25, b26, .int .u32 ((q : Int) + 1), b28, b29, b30, b31, b32, b33, b34, b35, b36, b37, b38, b39, b40, b41, b42, b43, b44, b45, b46, b47, b48, b49, b50, b51, b52, b53, b54, b55, b56, b57, b58, b59, b60, b61, b62, b63, b64, b65, b66, b67, b68, b69, b70, b71, b72, b73, b74, b75, b76, b77, b78, b79, b80, b81, b82, b83, b84, b85, b86, b87, b88, b89, b90, b91, b92, b93, b94, b95, b96, b97, b98, b99, b100, b101, b102, b103, b104, b105, b106, b107, b108, b109, b110, b111, b112, b113, b114, b115, b116, b117, b118, b119, b120, b121, b122, b123, b124, b125, b126, b127, b128, b129, b130, b131, b132, b133, b134, b135, b136, b137, b138, b139, b140, b141, b142, b143, b144, b145, b146, b147, b148, b149, b150, b151, b152, b153, b154, b155, b156, b157, b158, b159, b160, b161, b162, b163, b164, b165, b166, b167, b168, b169, b170, b171, b172, b173, b174, b175, b176, b177, b178, b179, b180, b181, b182, b183, b184, b185, b186, b187, b188, b189, b190, b191, b192, b193, b194, b195, b196, b197, b198, b199, b200, b201, b202, b203, b204, b205, b206, b207, b208, b209, b210, b211, b212, b213, b214, b215, b216, b217, b218, b219, b220, b221, b222, b223, b224, b225, b226, b227, b228, b229, b230, b231, b232, b233, b234, b235, b236, b237, b238, b239, b240, b241, b242, b243, b244, b245, b246, b247, b248, b249, b250, b251, b252, b253, b254, b255, b256, b257, b258, b259, b260, b261, b262, b263, b264, b265, b266, b267, b268, b269, b270, b271, b272, b273, b274, b275, b276, b277, b278, b279, b280, b281, b282, b283, b284, b285, b286, b287, b288, b289, b290, b291, b292, b293, b294, b295, b296, b297, b298, b299, b300, b301, b302, b303, b304, b305, b306, b307, b308, b309, b310, b311, b312, b313, b314, b315, b316, b317, b318, b319, b320, b321, b322, b323, b324, b325, b326, b327, b328, b329, b330, b331, b332, b333, b334, b335, b336, b337, b338, b339, b340, b341, b342, b343, b344, b345, b346, b347, b348, b349, b350, b351], []⟩ wz := by
  intro Q'
  conv at hcode => lhs; whnf
  injection hcode with hcode
  subst hcode
  have HQ := toAside hQ
  clear hQ
  have q0 : (0 : Int) ≤ (q : Int) := by omega
  have q1 : (q : Int) < (G.n : Int) := by omega
  have wq : IntKind.u32.wrap (q : Int) = (q : Int) := by rw [IntKind.wrap_u32]; omega
  obtain ⟨cB, cC, hcv, k1, k2, k3, k4, k5⟩ := M.out.citeAt hqn
  have HCV : Hid (V.cV = .slice (some ⟨cB, 0, none⟩) G.n cC) := hcv
  clear hcv
  obtain ⟨tA, qi, qz0, qz1, qz2⟩ := info_parts info45
  have hiA := toAside qi
  have hz0A := toAside qz0
  have hz1A := toAside qz1
  have hz2A := toAside qz2
  clear qi qz0 qz1 qz2
  have hcl : cB < wz.heap.size := World.block_lt_of_cell? wz _ k2
  have hml : mB < wz.heap.size := World.block_lt_of_cell? wz _ k1
  have RW : Aside (RowF B0 (wz.alloc (.cells #[.int .u32 ((G.n : Int) + 1)] 45)).drew (nT tgy wz.heap.size 18) (43 + 8 * q) 45 1 (cvm q) (cbm q).length (u32F (cbm q))) := by
    have h := (M.out.cited q hqn).fr (Fr.of_alloc (fun _ => False) wz tgy (.cells #[.int .u32 ((G.n : Int) + 1)] 45) 18) (fun h => h)
    exact toAside (h.drewN 1)
  go_region_law (refine step_rowF (by rfl) _ _ _ (by rfl) tA _ 4 Yba.underlying41 hiA.out hz0A.out hz1A.out hz2A.out rfl (by decide) (by rfl) RW.out ⟨wz.heap.size, 0, none⟩ 1 [.int .u32 ((G.n : Int) + 1)] (by rfl) rfl (World.news_of_block (cs := #[.int .u32 ((G.n : Int) + 1)]) (t := 45) (fr := (0, 0)) (heap_alloc_new wz _)) (snoc_news _ rfl) (by unfold maxLen; omega) (by omega) (by simp; omega) (u32F (cbm q ++ [G.n + 1])) (u32F_old _ _) (u32F_new _ _) ?_; intro gg cap5 w5 hrow5 hfr5; have l1 : w5.cell? ⟨mB, 4, none⟩ = some (.slice (some ⟨cB, 0, none⟩) G.n cC) := hfr5.cell (keepCell k1) (by show ¬ (nT tgy wz.heap.size 18 mB = 43 + 8 * q); rw [nT_lt _ _ _ _ hml, k5]; omega); have l2 : w5.cell? ⟨cB, q, none⟩ = some (cvm q) := hfr5.cell (keepCell k2) (by show ¬ (nT tgy wz.heap.size 18 cB = 43 + 8 * q); rw [nT_lt _ _ _ _ hcl, k4]; omega); have l3 : w5.frozen? ⟨cB, q, none⟩ = false := (World.frozen?_of_block (hfr5.block cB (Nat.lt_of_lt_of_le hcl (World.grownBy_alloc wz (.cells #[.int .u32 ((G.n : Int) + 1)] 45) none).size) (by show ¬ (nT tgy wz.heap.size 18 cB = 43 + 8 * q); rw [nT_lt _ _ _ _ hcl, k4]; omega))).trans (keepFrozen k3 hcl))
  all_goals
    have F5 := ((Fr.of_alloc (fun T => T = 43 + 8 * q) wz tgy (.cells #[.int .u32 ((G.n : Int) + 1)] 45) 18).drewN 1).trans hfr5
    obtain ⟨m6, f6⟩ := M.out.cite hqn F5 (by unfold RowL; rw [List.length_append]; exact hrow5) HCV.out
    exact HQ.out _ _ _ _ _ _ _ _ _ _ _ _ _ _ _ _ _ _ _ _ _ m6 f6
end Go.Proofs.Ybulkxiu
