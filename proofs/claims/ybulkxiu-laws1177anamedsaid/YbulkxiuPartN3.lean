import Derived.Test.YbulkxiuNe
import Derived.Test.YbulkxiuNl
import Derived.Test.YbulkxiuPartB
import Derived.Test.YbulkxiuAdd
import Derived.Deep.RegionLaw
import Derived.Deep.CutRange
import Derived.Deep.CutBlock
namespace Go.Proofs.Ybulkxiu
open Go.RowKit Go.Lib
set_option maxRecDepth 1000000
def Stop (p : Prop) : Prop := p
theorem stopHere {p : Prop} (h : Stop p) : p := h
theorem app_old {f f' : Nat → Value} {n : Nat} (h : ∀ j, j < n → f' j = f j) : ∀ j, j < n * 1 → f' j = f j := fun j hj => h j (by omega)
theorem app_new {f' : Nat → Value} {n : Nat} {v : Value} (h : f' n = v) : ∀ j, j < 1 → [v][j]? = some (f' (n * 1 + j)) := fun j hj => by
  obtain rfl : j = 0 := by omega
  rw [Nat.mul_one, Nat.add_zero, h]; rfl
theorem NR.slots {F : Fx} {w0 : World} {s : GS} {i : Nat} {cs : List (Option Nat)} {e : Nat} {ty ky : Bool} {tgx : Nat → Nat} {s16 : Value} {W : World} (h : NR F w0 s i cs e ty ky tgx s16 W) (hi : i < F.len) (u : Value) :
    W.cell? ⟨F.nO, i, none⟩ = some (noC s.nd i i) ∧ W.frozen? ⟨F.nO, i, none⟩ = false ∧ (W.setCell ⟨F.nO, i, none⟩ u).cell? ⟨F.sE, i, none⟩ = some (seC s.evp s.nd i i) ∧ (W.setCell ⟨F.nO, i, none⟩ u).frozen? ⟨F.sE, i, none⟩ = false := by
  have t1 : tgx F.nO = 25 := by obtain ⟨_, _, _, h⟩ := h.l.no; exact h F.nO rfl
  have f1 : Fr (fun T => T = 25) W tgx (W.setCell ⟨F.nO, i, none⟩ u) tgx := Fr.of_set _ _ _ _ t1
  obtain ⟨a, c, h1, _, h3⟩ := h.l.no.form
  obtain ⟨g, rfl, _, _, _, h4, h5⟩ := h3 (by omega)
  simp only [Value.slice.injEq, Option.some.injEq, Addr.mk.injEq, and_true, true_and] at h1
  obtain ⟨rfl, rfl⟩ := h1
  obtain ⟨a, c, h1, _, h3⟩ := (h.l.se.fr f1 (by omega)).form
  obtain ⟨g, rfl, _, _, _, h6, h7⟩ := h3 (by omega)
  simp only [Value.slice.injEq, Option.some.injEq, Addr.mk.injEq, and_true, true_and] at h1
  obtain ⟨rfl, rfl⟩ := h1
  exact ⟨h4 i (by omega), h5 i, h6 i (by omega), h7 i⟩

set_option maxHeartbeats 8000000 in
theorem partN3 (i : Nat) (code : Code) (hcode : (Yba.f5.body.bind (aftCond 235)).join = some code) (w : World) (sb so len cap : Nat) (F : Fx) (hFl : F.len = len) (hlt : i < len) (s : GS) (wc : World) (tgx : Nat → Nat) (e : Nat) (cs : List (Option Nat)) (ty ky : Bool) (p : Nat) (hp : p = parL s.G ty ky (ndL s cs)) (cvm : Nat → Value) (va : Option Addr) (vl vc : Nat)
    (c1 c2 c3 c25 c29 c34 c35 c36 c37 c38 c39 c40 c41 c42 c43 c44 c45 c46 c47 c48 c49 c350 c351 b16 b17 b18 b19 b20 b21 b26 b27 b30 b32 b33 b52 b53 b54 b55 b56 b57 b58 b59 b60 b61 b62 b63 b64 b65 b66 b67 b68 b69 b70 b71 b72 b73 b74 b75 b76 b77 b78 b79 b80 b81 b82 b83 b84 b85 b86 b87 b88 b89 b90 b91 b92 b93 b94 b95 b96 b97 b98 b99 b100 b101 b102 b103 b104 b105 b106 b107 b108 b109 b110 b111 b112 b113 b114 b115 b116 b117 b118 b119 b120 b121 b122 b123 b124 b125 b126 b127 b128 b129 b130 b131 b132 b133 b134 b135 b136 b137 b138 b139 b140 b141 b142 b143 b144 b145 b146 b147 b148 b149 b150 b151 b152 b153 b154 b155 b156 b157 b158 b159 b160 b161 b162 b163 b164 b165 b166 b167 b168 b169 b170 b171 b172 b173 b174 b175 b176 b177 b178 b179 b180 b181 b182 b183 b184 b185 b186 b187 b188 b189 b190 b191 b192 b193 b194 b195 b196 b197 b198 b199 b200 b201 b202 b203 b204 b205 b206 b207 b208 b209 b210 b211 b212 b213 b214 b215 b216 b217 b218 b219 b220 b221 b222 b223 b224 b225 b226 b227 b228 b229 b230 b231 b232 b233 b234 b235 b236 b237 b238 b239 b240 b241 b242 b243 b244 b245 b246 b247 b248 b249 b250 b251 b252 b253 b254 b255 b256 b257 b258 b259 b260 b261 b262 b263 b264 b265 b266 b267 b268 b269 b270 b271 b272 b273 b274 b275 b276 b277 b278 b279 b280 b281 b282 b283 b284 b285 b286 b287 b288 b289 b290 b291 b292 b293 b294 b295 b296 b297 b298 b299 b300 b301 b302 b303 b304 b305 b306 b307 b308 b309 b310 b311 b312 b313 b314 b315 b316 b317 b318 b319 b320 b321 b322 b323 b324 b325 b326 b327 b328 b329 b330 b331 b332 b333 b334 b335 b336 b337 b338 b339 b340 b341 b342 b343 b344 b345 b346 b347 b348 b349 : Value) (H : Aside (NM F w s i cs e ty ky b16 cvm (cbL (s.G.n + 1) s.cb (ndL s cs)) (.slice va vl vc) (ownL s.evp s.nd p cs) s.V s.G.n s.G.n s.G.n s.G.n s.G.n (evC s.G) (parC s.G) (depC s.G) s.ovm cvm tgx wc)) (Q : Aside (NQ F s i)) (KC KB KK K1 : Act → World → Prop) (post : Ending → World → Prop)
    (hK : ∀ (y23 y24 y26 y27 y28 y30 y31 y52 y53 y54 y55 y56 y57 y58 y59 y60 y61 y62 y63 y64 y65 y66 y67 y68 y69 y70 y71 y72 y73 y74 y75 y76 y77 y78 y79 y80 y81 y82 y83 y84 y85 y86 y87 y88 y89 y90 y91 y92 y93 y94 y95 y96 y97 y98 y99 y100 y101 y102 y103 y104 y105 y106 y107 y108 y109 y110 y111 y112 y113 y114 y115 y116 y117 y118 y119 y120 y121 y122 y123 y124 y125 y126 y127 y128 y129 y130 y131 y132 y133 y134 y135 y136 y137 y138 y139 y140 y141 y142 y143 y144 y145 y146 y147 y148 y149 y150 y151 y152 y153 y154 y155 y156 y157 y158 y159 y160 y161 y162 y163 y164 y165 y166 y167 y168 y169 y170 y171 y172 y173 y174 y175 y176 y177 y178 y179 y180 y181 y182 y183 y184 y185 y186 y187 y188 y189 y190 y191 y192 y193 y194 y195 y196 y197 y198 y199 y200 y201 y202 y203 y204 y205 y206 y207 y208 y209 y210 y211 y212 y213 y214 y215 y216 y217 y218 y219 y220 y221 y222 y223 y224 y225 y226 y227 y228 y229 y230 y231 y232 y233 y234 y235 y236 y237 y238 y239 y240 y241 y242 y243 y244 y245 y246 y247 y248 y249 y250 y251 y252 y253 y254 y255 y256 y257 y258 y259 y260 y261 y262 y263 y264 y265 y266 y267 y268 y269 y270 y271 y272 y273 y274 y275 y276 y277 y278 y279 y280 y281 y282 y283 y284 y285 y286 y287 y288 y289 y290 y291 y292 y293 y294 y295 y296 y297 y298 y299 y300 y301 y302 y303 y304 y305 y306 y307 y308 y309 y310 y311 y312 y313 y314 y315 y316 y317 y318 y319 y320 y321 y322 y323 y324 y325 y326 y327 y328 y329 y330 y331 y332 y333 y334 y335 y336 y337 y338 y339 y340 y341 y342 y343 y344 y345 y346 y347 y348 y349 : Value) (s' : GS) (wx : World), s'.recsV = s.recsV → s'.idbV = s.idbV → s'.evp i = some e → Aside (DR F w s' (i + 1) wx) → Aside (XI F.B0 wx s'.tg F.xB F.mb s'.nmx i s'.recsV s'.idbV s'.evp) → KC ⟨#[.slice (some ⟨sb, so, none⟩) len cap, c1, c2, c3, .pointer (some ⟨F.tyB, 0, none⟩), .pointer (some ⟨F.kyB, 0, none⟩), .pointer (some ⟨F.gB, 0, none⟩), .pointer (some ⟨F.xB, 0, none⟩), .pointer (some ⟨F.mB, 0, none⟩), s.recsV, s.idbV, .slice (some ⟨F.sE, 0, none⟩) len len, .slice (some ⟨F.nO, 0, none⟩) len len, .int .i64 (i : Int), .pointer (some ⟨sb, so + i * 4, none⟩), .string (idS i), b16, b17, b18, b19, b20, b21, .pointer (some ⟨e, 0, none⟩), y23, y24, c25, y26, y27, y28, c29, y30, y31, b32, b33, c34, c35, c36, c37, c38, c39, c40, c41, c42, c43, c44, c45, c46, c47, c48, c49, .int .i64 (len : Int), .int .i64 (i : Int), y52, y53, y54, y55, y56, y57, y58, y59, y60, y61, y62, y63, y64, y65, y66, y67, y68, y69, y70, y71, y72, y73, y74, y75, y76, y77, y78, y79, y80, y81, y82, y83, y84, y85, y86, y87, y88, y89, y90, y91, y92, y93, y94, y95, y96, y97, y98, y99, y100, y101, y102, y103, y104, y105, y106, y107, y108, y109, y110, y111, y112, y113, y114, y115, y116, y117, y118, y119, y120, y121, y122, y123, y124, y125, y126, y127, y128, y129, y130, y131, y132, y133, y134, y135, y136, y137, y138, y139, y140, y141, y142, y143, y144, y145, y146, y147, y148, y149, y150, y151, y152, y153, y154, y155, y156, y157, y158, y159, y160, y161, y162, y163, y164, y165, y166, y167, y168, y169, y170, y171, y172, y173, y174, y175, y176, y177, y178, y179, y180, y181, y182, y183, y184, y185, y186, y187, y188, y189, y190, y191, y192, y193, y194, y195, y196, y197, y198, y199, y200, y201, y202, y203, y204, y205, y206, y207, y208, y209, y210, y211, y212, y213, y214, y215, y216, y217, y218, y219, y220, y221, y222, y223, y224, y225, y226, y227, y228, y229, y230, y231, y232, y233, y234, y235, y236, y237, y238, y239, y240, y241, y242, y243, y244, y245, y246, y247, y248, y249, y250, y251, y252, y253, y254, y255, y256, y257, y258, y259, y260, y261, y262, y263, y264, y265, y266, y267, y268, y269, y270, y271, y272, y273, y274, y275, y276, y277, y278, y279, y280, y281, y282, y283, y284, y285, y286, y287, y288, y289, y290, y291, y292, y293, y294, y295, y296, y297, y298, y299, y300, y301, y302, y303, y304, y305, y306, y307, y308, y309, y310, y311, y312, y313, y314, y315, y316, y317, y318, y319, y320, y321, y322, y323, y324, y325, y326, y327, y328, y329, y330, y331, y332, y333, y334, y335, y336, y337, y338, y339, y340, y341, y342, y343, y344, y345, y346, y347, y348, y349, c350, c351], []⟩ wx) :
    let Q' : Exit → Act → World → Prop := bodyPost Yba.prog Yba.f5 post
    Code.wp Yba.prog code (Exit.then KC (Exit.inBlock 1 (Exit.then KB (Exit.then KK (Exit.inBlock 0 (Exit.then K1 Q')))))) ⟨#[.slice (some ⟨sb, so, none⟩) len cap, c1, c2, c3, .pointer (some ⟨F.tyB, 0, none⟩), .pointer (some ⟨F.kyB, 0, none⟩), .pointer (some ⟨F.gB, 0, none⟩), .pointer (some ⟨F.xB, 0, none⟩), .pointer (some ⟨F.mB, 0, none⟩), s.recsV, s.idbV, .slice (some ⟨F.sE, 0, none⟩) len len, .slice (some ⟨F.nO, 0, none⟩) len len, .int .i64 (i : Int), .pointer (some ⟨sb, so + i * 4, none⟩), .string (idS i), b16, b17, b18, b19, b20, b21, .pointer (some ⟨e, 0, none⟩), .int .u32 ((s.G.n : Int) + 1), .int .u32 (p : Int), c25, b26, b27, .slice va vl vc, c29, b30, .int .u32 ((depOf s.G p : Nat) : Int), b32, b33, c34, c35, c36, c37, c38, c39, c40, c41, c42, c43, c44, c45, c46, c47, c48, c49, .int .i64 (len : Int), .int .i64 (i : Int), b52, b53, b54, b55, b56, b57, b58, b59, b60, b61, b62, b63, b64, b65, b66, b67, b68, b69, b70, b71, b72, b73, b74, b75, b76, b77, b78, b79, b80, b81, b82, b83, b84, b85, b86, b87, b88, b89, b90, b91, b92, b93, b94, b95, b96, b97, b98, b99, b100, b101, b102, b103, b104, b105, b106, b107, b108, b109, b110, b111, b112, b113, b114, b115, b116, b117, b118, b119, b120, b121, b122, b123, b124, b125, b126, b127, b128, b129, b130, b131, b132, b133, b134, b135, b136, b137, b138, b139, b140, b141, b142, b143, b144, b145, b146, b147, b148, b149, b150, b151, b152, b153, b154, b155, b156, b157, b158, b159, b160, b161, b162, b163, b164, b165, b166, b167, b168, b169, b170, b171, b172, b173, b174, b175, b176, b177, b178, b179, b180, b181, b182, b183, b184, b185, b186, b187, b188, b189, b190, b191, b192, b193, b194, b195, b196, b197, b198, b199, b200, b201, b202, b203, b204, b205, b206, b207, b208, b209, b210, b211, b212, b213, b214, b215, b216, b217, b218, b219, b220, b221, b222, b223, b224, b225, b226, b227, b228, b229, b230, b231, b232, b233, b234, b235, b236, b237, b238, b239, b240, b241, b242, b243, b244, b245, b246, b247, b248, b249, b250, b251, b252, b253, b254, b255, b256, b257, b258, b259, b260, b261, b262, b263, b264, b265, b266, b267, b268, b269, b270, b271, b272, b273, b274, b275, b276, b277, b278, b279, b280, b281, b282, b283, b284, b285, b286, b287, b288, b289, b290, b291, b292, b293, b294, b295, b296, b297, b298, b299, b300, b301, b302, b303, b304, b305, b306, b307, b308, b309, b310, b311, b312, b313, b314, b315, b316, b317, b318, b319, b320, b321, b322, b323, b324, b325, b326, b327, b328, b329, b330, b331, b332, b333, b334, b335, b336, b337, b338, b339, b340, b341, b342, b343, b344, b345, b346, b347, b348, b349, c350, c351], []⟩ wc := by
  intro Q'
  conv at hcode => lhs; whnf
  injection hcode with hcode
  subst hcode
  have HK := toAside hK
  clear hK
  obtain ⟨tA, qi, qz0, qz1, qz2⟩ := info_parts info47
  have hiA := toAside qi
  have hz0A := toAside qz0
  have hz1A := toAside qz1
  have hz2A := toAside qz2
  clear qi qz0 qz1 qz2
  obtain ⟨tB, qi, qz0, qz1, qz2⟩ := info_parts info45
  have hiB := toAside qi
  have hz0B := toAside qz0
  have hz1B := toAside qz1
  have hz2B := toAside qz2
  clear qi qz0 qz1 qz2
  obtain ⟨tC, qi, qz0, qz1, qz2⟩ := info_parts info41
  have hiC := toAside qi
  have hz0C := toAside qz0
  have hz1C := toAside qz1
  have hz2C := toAside qz2
  clear qi qz0 qz1 qz2
  have HP := toAside hp
  clear hp
  have hsm : s.G.n ≤ 512 := H.out.n.g.wf.small
  have k0 : wc.cell? ⟨F.mB, 0, none⟩ = some s.V.eV := H.out.m.cells.1
  have RW0 : Aside (RowF F.B0 (wc.alloc (.cells #[.pointer (some ⟨e, 0, none⟩)] 47)) (nT tgx wc.heap.size 18) 7 47 1 s.V.eV s.G.n (evC s.G)) := by
    have h := H.out.m.evs.fr (Fr.of_alloc (fun _ => False) wc tgx (.cells #[.pointer (some ⟨e, 0, none⟩)] 47) 18) (fun q => q)
    skip
    exact toAside h
  have HB0 : Aside (F.B0 ≤ (wc.alloc (.cells #[.pointer (some ⟨e, 0, none⟩)] 47)).heap.size) := (by have := H.out.n.sz; simp; omega : F.B0 ≤ (wc.alloc (.cells #[.pointer (some ⟨e, 0, none⟩)] 47)).heap.size)
  go_wp2_with (first | (at_builtin; refine stopHere ?_))
  unfold Stop
  refine wpList_rowF rfl (.tmp 249) (.tmp 251) 40 rfl tA _ 8 Yba.underlying40 hiA.out hz0A.out hz1A.out hz2A.out rfl (by decide) rfl RW0.out ⟨_, 0, none⟩ 1 [.pointer (some ⟨e, 0, none⟩)] rfl rfl (news1 _ _ _ _ (by simp)) (snoc_news _ rfl) (by unfold maxLen; omega) (by omega) HB0.out (evC (addG s.G e ty ky p)) (app_old fun j hj => by simp only [evC, addG, upd_other _ _ _ (show j ≠ s.G.n by omega)]) (app_new (by simp only [evC, addG, upd_same])) ?_
  intro g1 c1x w1 r1 f1
  have F1 := (Fr.of_alloc (fun T => T = 7) wc tgx (.cells #[.pointer (some ⟨e, 0, none⟩)] 47) 18).trans f1
  obtain ⟨W1, hW1⟩ : ∃ W, W = w1.setCell ⟨F.mB, 0, none⟩ (.slice (some ⟨g1, 0, none⟩) (s.G.n + 1) c1x) := ⟨_, rfl⟩
  obtain ⟨V1, hV1⟩ : ∃ V' : MVs, V' = { s.V with eV := .slice (some ⟨g1, 0, none⟩) (s.G.n + 1) c1x } := ⟨_, rfl⟩
  obtain ⟨tg1, H1⟩ : ∃ tg1, Aside (NM F w s i cs e ty ky b16 cvm (cbL (s.G.n + 1) s.cb (ndL s cs)) (.slice va vl vc) (ownL s.evp s.nd p cs) V1 (s.G.n + 1) s.G.n s.G.n s.G.n s.G.n (evC (addG s.G e ty ky p)) (parC s.G) (depC s.G) s.ovm cvm tg1 W1) := by
    rw [hW1, hV1]
    exact ⟨_, H.out.of (H.out.m.setE F1 r1)⟩
  obtain ⟨p1, q1⟩ := H.out.m.keep F1 (by decide) 0 _ k0
  have HW1 : Hid (W1 = w1.setCell ⟨F.mB, 0, none⟩ (.slice (some ⟨g1, 0, none⟩) (s.G.n + 1) c1x)) := hW1
  have HV1 : Hid (V1 = { s.V with eV := .slice (some ⟨g1, 0, none⟩) (s.G.n + 1) c1x }) := hV1
  clear r1 f1 F1 k0 RW0 HB0 H hW1 hV1
  have hv1 : V1.pV = s.V.pV := by rw [HV1.out]
  have k1 : W1.cell? ⟨F.mB, 1, none⟩ = some s.V.pV := by
    have h := H1.out.m.cells.2.1
    rw [hv1] at h
    exact h
  have kx : (w1.setCell ⟨F.mB, 0, none⟩ (.slice (some ⟨g1, 0, none⟩) (s.G.n + 1) c1x)).cell? ⟨F.mB, 1, none⟩ = some s.V.pV := by rw [← HW1.out]; exact k1
  have RW1 : Aside (RowF F.B0 (W1.alloc (.cells #[.int .u32 (p : Int)] 45)) (nT tg1 W1.heap.size 18) 11 45 1 s.V.pV s.G.n (parC s.G)) := by
    have h := H1.out.m.par.fr (Fr.of_alloc (fun _ => False) W1 tg1 (.cells #[.int .u32 (p : Int)] 45) 18) (fun q => q)
    rw [hv1] at h
    exact toAside h
  have HB1 : Aside (F.B0 ≤ (W1.alloc (.cells #[.int .u32 (p : Int)] 45)).heap.size) := (by have := H1.out.n.sz; simp; omega : F.B0 ≤ (W1.alloc (.cells #[.int .u32 (p : Int)] 45)).heap.size)
  go_wp2_with (first | (at_builtin; refine stopHere ?_))
  unfold Stop
  rw [← HW1.out]
  clear kx p1 q1 hv1
  refine wpList_rowF rfl (.tmp 259) (.tmp 261) 41 rfl tB _ 4 Yba.underlying41 hiB.out hz0B.out hz1B.out hz2B.out rfl (by decide) rfl RW1.out ⟨_, 0, none⟩ 1 [.int .u32 (p : Int)] rfl rfl (news1 _ _ _ _ (by rw [HW1.out]; simp)) (snoc_news _ rfl) (by unfold maxLen; omega) (by omega) HB1.out (parC (addG s.G e ty ky p)) (app_old fun j hj => by simp only [parC, addG, upd_other _ _ _ (show j ≠ s.G.n by omega)]) (app_new (by simp only [parC, addG, upd_same])) ?_
  intro g2 c2x w2 r2 f2
  have F2 := (Fr.of_alloc (fun T => T = 11) W1 tg1 (.cells #[.int .u32 (p : Int)] 45) 18).trans f2
  obtain ⟨W2, hW2⟩ : ∃ W, W = w2.setCell ⟨F.mB, 1, none⟩ (.slice (some ⟨g2, 0, none⟩) (s.G.n + 1) c2x) := ⟨_, rfl⟩
  obtain ⟨V2, hV2⟩ : ∃ V' : MVs, V' = { V1 with pV := .slice (some ⟨g2, 0, none⟩) (s.G.n + 1) c2x } := ⟨_, rfl⟩
  obtain ⟨tg2, H2⟩ : ∃ tg2, Aside (NM F w s i cs e ty ky b16 cvm (cbL (s.G.n + 1) s.cb (ndL s cs)) (.slice va vl vc) (ownL s.evp s.nd p cs) V2 (s.G.n + 1) (s.G.n + 1) s.G.n s.G.n s.G.n (evC (addG s.G e ty ky p)) (parC (addG s.G e ty ky p)) (depC s.G) s.ovm cvm tg2 W2) := by
    rw [hW2, hV2]
    exact ⟨_, H1.out.of (H1.out.m.setP F2 r2)⟩
  obtain ⟨p2, q2⟩ := H1.out.m.keep F2 (by decide) 1 _ k1
  have HW2 : Hid (W2 = w2.setCell ⟨F.mB, 1, none⟩ (.slice (some ⟨g2, 0, none⟩) (s.G.n + 1) c2x)) := hW2
  have HV2 : Hid (V2 = { V1 with pV := .slice (some ⟨g2, 0, none⟩) (s.G.n + 1) c2x }) := hV2
  clear r2 f2 F2 k1 RW1 HB1 H1 hW2 hV2
  have hv2 : V2.dV = s.V.dV := by rw [HV2.out, HV1.out]
  have k2 : W2.cell? ⟨F.mB, 2, none⟩ = some s.V.dV := by
    have h := H2.out.m.cells.2.2.1
    rw [hv2] at h
    exact h
  have kx : (w2.setCell ⟨F.mB, 1, none⟩ (.slice (some ⟨g2, 0, none⟩) (s.G.n + 1) c2x)).cell? ⟨F.mB, 2, none⟩ = some s.V.dV := by rw [← HW2.out]; exact k2
  have RW2 : Aside (RowF F.B0 (W2.alloc (.cells #[.int .u32 ((depOf s.G p : Nat) : Int)] 45)) (nT tg2 W2.heap.size 18) 15 45 1 s.V.dV s.G.n (depC s.G)) := by
    have h := H2.out.m.dep.fr (Fr.of_alloc (fun _ => False) W2 tg2 (.cells #[.int .u32 ((depOf s.G p : Nat) : Int)] 45) 18) (fun q => q)
    rw [hv2] at h
    exact toAside h
  have HB2 : Aside (F.B0 ≤ (W2.alloc (.cells #[.int .u32 ((depOf s.G p : Nat) : Int)] 45)).heap.size) := (by have := H2.out.n.sz; simp; omega : F.B0 ≤ (W2.alloc (.cells #[.int .u32 ((depOf s.G p : Nat) : Int)] 45)).heap.size)
  go_wp2_with (first | (at_builtin; refine stopHere ?_))
  unfold Stop
  rw [← HW2.out]
  clear kx p2 q2 hv2
  refine wpList_rowF rfl (.tmp 269) (.tmp 271) 41 rfl tB _ 4 Yba.underlying41 hiB.out hz0B.out hz1B.out hz2B.out rfl (by decide) rfl RW2.out ⟨_, 0, none⟩ 1 [.int .u32 ((depOf s.G p : Nat) : Int)] rfl rfl (news1 _ _ _ _ (by rw [HW2.out]; simp)) (snoc_news _ rfl) (by unfold maxLen; omega) (by omega) HB2.out (depC (addG s.G e ty ky p)) (app_old fun j hj => by simp only [depC, addG, upd_other _ _ _ (show j ≠ s.G.n by omega)]) (app_new (by simp only [depC, addG, upd_same])) ?_
  intro g3 c3x w3 r3 f3
  have F3 := (Fr.of_alloc (fun T => T = 15) W2 tg2 (.cells #[.int .u32 ((depOf s.G p : Nat) : Int)] 45) 18).trans f3
  obtain ⟨W3, hW3⟩ : ∃ W, W = w3.setCell ⟨F.mB, 2, none⟩ (.slice (some ⟨g3, 0, none⟩) (s.G.n + 1) c3x) := ⟨_, rfl⟩
  obtain ⟨V3, hV3⟩ : ∃ V' : MVs, V' = { V2 with dV := .slice (some ⟨g3, 0, none⟩) (s.G.n + 1) c3x } := ⟨_, rfl⟩
  obtain ⟨tg3, H3⟩ : ∃ tg3, Aside (NM F w s i cs e ty ky b16 cvm (cbL (s.G.n + 1) s.cb (ndL s cs)) (.slice va vl vc) (ownL s.evp s.nd p cs) V3 (s.G.n + 1) (s.G.n + 1) (s.G.n + 1) s.G.n s.G.n (evC (addG s.G e ty ky p)) (parC (addG s.G e ty ky p)) (depC (addG s.G e ty ky p)) s.ovm cvm tg3 W3) := by
    rw [hW3, hV3]
    exact ⟨_, H2.out.of (H2.out.m.setD F3 r3)⟩
  obtain ⟨p3, q3⟩ := H2.out.m.keep F3 (by decide) 2 _ k2
  have HW3 : Hid (W3 = w3.setCell ⟨F.mB, 2, none⟩ (.slice (some ⟨g3, 0, none⟩) (s.G.n + 1) c3x)) := hW3
  have HV3 : Hid (V3 = { V2 with dV := .slice (some ⟨g3, 0, none⟩) (s.G.n + 1) c3x }) := hV3
  clear r3 f3 F3 k2 RW2 HB2 H2 hW3 hV3
  have hv3 : V3.oV = s.V.oV := by rw [HV3.out, HV2.out, HV1.out]
  have k3 : W3.cell? ⟨F.mB, 3, none⟩ = some s.V.oV := by
    have h := H3.out.m.cells.2.2.2.1
    rw [hv3] at h
    exact h
  have kx : (w3.setCell ⟨F.mB, 2, none⟩ (.slice (some ⟨g3, 0, none⟩) (s.G.n + 1) c3x)).cell? ⟨F.mB, 3, none⟩ = some s.V.oV := by rw [← HW3.out]; exact k3
  have RW3 : Aside (RowF F.B0 (W3.alloc (.cells #[.slice va vl vc] 41)) (nT tg3 W3.heap.size 18) 19 41 1 s.V.oV s.G.n (s.ovm)) := by
    have h := H3.out.m.ownr.fr (Fr.of_alloc (fun _ => False) W3 tg3 (.cells #[.slice va vl vc] 41) 18) (fun q => q)
    rw [hv3] at h
    exact toAside h
  have HB3 : Aside (F.B0 ≤ (W3.alloc (.cells #[.slice va vl vc] 41)).heap.size) := (by have := H3.out.n.sz; simp; omega : F.B0 ≤ (W3.alloc (.cells #[.slice va vl vc] 41)).heap.size)
  go_wp2_with (first | (at_builtin; refine stopHere ?_))
  unfold Stop
  rw [← HW3.out]
  clear kx p3 q3 hv3
  refine wpList_rowF rfl (.tmp 279) (.tmp 281) 42 rfl tC _ 24 Yba.underlying42 hiC.out hz0C.out hz1C.out hz2C.out rfl (by decide) rfl RW3.out ⟨_, 0, none⟩ 1 [.slice va vl vc] rfl rfl (news1 _ _ _ _ (by rw [HW3.out]; simp)) (snoc_news _ rfl) (by unfold maxLen; omega) (by omega) HB3.out (upd s.ovm s.G.n (.slice va vl vc)) (app_old fun j hj => upd_other _ _ _ (by omega)) (app_new (upd_same _ _ _)) ?_
  intro g4 c4x w4 r4 f4
  have F4 := (Fr.of_alloc (fun T => T = 19) W3 tg3 (.cells #[.slice va vl vc] 41) 18).trans f4
  obtain ⟨W4, hW4⟩ : ∃ W, W = w4.setCell ⟨F.mB, 3, none⟩ (.slice (some ⟨g4, 0, none⟩) (s.G.n + 1) c4x) := ⟨_, rfl⟩
  obtain ⟨V4, hV4⟩ : ∃ V' : MVs, V' = { V3 with oV := .slice (some ⟨g4, 0, none⟩) (s.G.n + 1) c4x } := ⟨_, rfl⟩
  obtain ⟨tg4, H4⟩ : ∃ tg4, Aside (NM F w s i cs e ty ky b16 cvm (cbL (s.G.n + 1) s.cb (ndL s cs)) (.slice va vl vc) (ownL s.evp s.nd p cs) V4 (s.G.n + 1) (s.G.n + 1) (s.G.n + 1) (s.G.n + 1) s.G.n (evC (addG s.G e ty ky p)) (parC (addG s.G e ty ky p)) (depC (addG s.G e ty ky p)) (upd s.ovm s.G.n (.slice va vl vc)) cvm tg4 W4) := by
    rw [hW4, hV4]
    exact ⟨_, H3.out.of (H3.out.m.setO F4 r4)⟩
  obtain ⟨p4, q4⟩ := H3.out.m.keep F4 (by decide) 3 _ k3
  have HW4 : Hid (W4 = w4.setCell ⟨F.mB, 3, none⟩ (.slice (some ⟨g4, 0, none⟩) (s.G.n + 1) c4x)) := hW4
  have HV4 : Hid (V4 = { V3 with oV := .slice (some ⟨g4, 0, none⟩) (s.G.n + 1) c4x }) := hV4
  clear r4 f4 F4 k3 RW3 HB3 H3 hW4 hV4
  have hv4 : V4.cV = s.V.cV := by rw [HV4.out, HV3.out, HV2.out, HV1.out]
  have k4 : W4.cell? ⟨F.mB, 4, none⟩ = some s.V.cV := by
    have h := H4.out.m.cells.2.2.2.2
    rw [hv4] at h
    exact h
  have kx : (w4.setCell ⟨F.mB, 3, none⟩ (.slice (some ⟨g4, 0, none⟩) (s.G.n + 1) c4x)).cell? ⟨F.mB, 4, none⟩ = some s.V.cV := by rw [← HW4.out]; exact k4
  have RW4 : Aside (RowF F.B0 (W4.alloc (.cells #[.slice none 0 0] 41)) (nT tg4 W4.heap.size 18) 23 41 1 s.V.cV s.G.n (cvm)) := by
    have h := H4.out.m.cbr.fr (Fr.of_alloc (fun _ => False) W4 tg4 (.cells #[.slice none 0 0] 41) 18) (fun q => q)
    rw [hv4] at h
    exact toAside h
  have HB4 : Aside (F.B0 ≤ (W4.alloc (.cells #[.slice none 0 0] 41)).heap.size) := (by have := H4.out.n.sz; simp; omega : F.B0 ≤ (W4.alloc (.cells #[.slice none 0 0] 41)).heap.size)
  go_wp2_with (first | (at_builtin; refine stopHere ?_))
  unfold Stop
  rw [← HW4.out]
  clear kx p4 q4 hv4
  refine wpList_rowF rfl (.tmp 289) (.tmp 290) 42 rfl tC _ 24 Yba.underlying42 hiC.out hz0C.out hz1C.out hz2C.out rfl (by decide) rfl RW4.out ⟨_, 0, none⟩ 1 [.slice none 0 0] rfl rfl (news1 _ _ _ _ (by rw [HW4.out]; simp)) (snoc_news _ rfl) (by unfold maxLen; omega) (by omega) HB4.out (upd cvm s.G.n (.slice none 0 0)) (app_old fun j hj => upd_other _ _ _ (by omega)) (app_new (upd_same _ _ _)) ?_
  intro g5 c5x w5 r5 f5
  have F5 := (Fr.of_alloc (fun T => T = 23) W4 tg4 (.cells #[.slice none 0 0] 41) 18).trans f5
  obtain ⟨W5, hW5⟩ : ∃ W, W = w5.setCell ⟨F.mB, 4, none⟩ (.slice (some ⟨g5, 0, none⟩) (s.G.n + 1) c5x) := ⟨_, rfl⟩
  obtain ⟨V5, hV5⟩ : ∃ V' : MVs, V' = { V4 with cV := .slice (some ⟨g5, 0, none⟩) (s.G.n + 1) c5x } := ⟨_, rfl⟩
  obtain ⟨tg5, H5⟩ : ∃ tg5, Aside (NM F w s i cs e ty ky b16 cvm (cbL (s.G.n + 1) s.cb (ndL s cs)) (.slice va vl vc) (ownL s.evp s.nd p cs) V5 (s.G.n + 1) (s.G.n + 1) (s.G.n + 1) (s.G.n + 1) (s.G.n + 1) (evC (addG s.G e ty ky p)) (parC (addG s.G e ty ky p)) (depC (addG s.G e ty ky p)) (upd s.ovm s.G.n (.slice va vl vc)) (upd cvm s.G.n (.slice none 0 0)) tg5 W5) := by
    rw [hW5, hV5]
    exact ⟨_, H4.out.of (H4.out.m.setC F5 r5)⟩
  obtain ⟨p5, q5⟩ := H4.out.m.keep F5 (by decide) 4 _ k4
  have HW5 : Hid (W5 = w5.setCell ⟨F.mB, 4, none⟩ (.slice (some ⟨g5, 0, none⟩) (s.G.n + 1) c5x)) := hW5
  have HV5 : Hid (V5 = { V4 with cV := .slice (some ⟨g5, 0, none⟩) (s.G.n + 1) c5x }) := hV5
  clear r5 f5 F5 k4 RW4 HB4 H4 hW5 hV5
  have hi : i < F.len := by omega
  have hl5 : F.len ≤ 512 := Q.out.len
  obtain ⟨z1, z2, z3, z4⟩ := H5.out.n.slots hi (.int .u32 ((s.G.n : Int) + 1))
  have i0 : (0 : Int) ≤ (i : Int) := by omega
  have i1 : (i : Int) < (len : Int) := by omega
  iterate 12 go_step
  rw [← HW5.out]
  clear p5 q5
  obtain ⟨_, fz⟩ := H5.out.n.l.put (e := e) hi (s.G.n + 1) (by omega)
  obtain ⟨rb, cr, db, cd, ib, ci, ab, ca, X, XT⟩ := (H5.out.n.x.fr fz (fun T q => by omega)).mem (by omega)
  have AD := toAside (add_any (H5.out.n.g.fr fz (fun T q => ⟨by omega, by omega, by omega, by omega, fun k _ => by omega⟩)) X XT (H5.out.n.num.fr fz (by omega)) e ty ky cs (H5.out.n.ev.fr fz (by omega) (by rw [H5.out.n.et]; omega)) H5.out.n.et H5.out.n.eb (by have := Q.out.ni; omega) (fun k => Nat.le_trans (Q.out.cb16 k) (by omega)) (Q.out.cbf _ (Nat.le_refl _)) (Nat.le_trans H5.out.n.sz fz.size))
  clear X XT fz
  go_wp2_with fail
  refine AD.out.mono ?_
  rintro e1 w6 ⟨rfl, tg6, nv6, mp6, cv6, nm6, g6, f6, hnm6, hnr6⟩
  dsimp only
  rw [show parL s.G ty ky (cs.map (nodeAt s.evp s.nd)) = p from HP.out.symm] at g6 hnr6
  have h7 : ∀ t j, cs.getD t none = some j → j < i := by obtain ⟨_, _, _, _, _, _, _, _, _, h, _⟩ := H5.out.n.ev; exact h
  have hple : p ≤ s.G.n := by rw [HP.out]; exact parL_le _ _ _ _ _ (H5.out.n.num.le h7)
  have nk := NKs.add (e := e) (ty := ty) (ky := ky) Q.out.nk H5.out.n.g.wf hple Q.out.own (fun k hk x hx => by
      rw [Q.out.own k hk] at hx
      obtain ⟨x1, x2⟩ := ownL_mem hx
      obtain ⟨_, _, _, _, _, _, _, _, _, h7k, _⟩ := H5.out.n.g.evs k hk
      exact ⟨x1, H5.out.n.num.le h7k x x2⟩) (fun k hk hp y hy => Nat.lt_trans ((H5.out.n.g.nmlt k hk hp).2 y hy) hk) (fun x hx => ⟨(ownL_mem hx).1, H5.out.n.num.le h7 x (ownL_mem hx).2⟩) hnm6 hnr6
  obtain ⟨d1, d2⟩ := node_end H5.out Q.out hi g6 f6 nk
  have D1 := toAside d1
  have D2 := toAside d2
  clear d1 d2 nk g6 f6 hnm6 hnr6 AD
  go_wp2
  exact HK.out _ _ _ _ _ _ _ _ _ _ _ _ _ _ _ _ _ _ _ _ _ _ _ _ _ _ _ _ _ _ _ _ _ _ _ _ _ _ _ _ _ _ _ _ _ _ _ _ _ _ _ _ _ _ _ _ _ _ _ _ _ _ _ _ _ _ _ _ _ _ _ _ _ _ _ _ _ _ _ _ _ _ _ _ _ _ _ _ _ _ _ _ _ _ _ _ _ _ _ _ _ _ _ _ _ _ _ _ _ _ _ _ _ _ _ _ _ _ _ _ _ _ _ _ _ _ _ _ _ _ _ _ _ _ _ _ _ _ _ _ _ _ _ _ _ _ _ _ _ _ _ _ _ _ _ _ _ _ _ _ _ _ _ _ _ _ _ _ _ _ _ _ _ _ _ _ _ _ _ _ _ _ _ _ _ _ _ _ _ _ _ _ _ _ _ _ _ _ _ _ _ _ _ _ _ _ _ _ _ _ _ _ _ _ _ _ _ _ _ _ _ _ _ _ _ _ _ _ _ _ _ _ _ _ _ _ _ _ _ _ _ _ _ _ _ _ _ _ _ _ _ _ _ _ _ _ _ _ _ _ _ _ _ _ _ _ _ _ _ _ _ _ _ _ _ _ _ _ _ _ _ _ _ _ _ _ _ _ _ _ _ _ _ _ _ _ _ _ _ _ _ _ _ _ _ (nextS s i cs e ty ky p cvm (.slice va vl vc) V5 tg6 nv6 mp6 cv6 nm6) _ rfl rfl (upd_same _ _ _) D1 D2
end Go.Proofs.Ybulkxiu
