import Derived.Test.YbulkxiuPartE
import Derived.Test.YbulkxiuBk
import Derived.Deep.RegionLaw
import Derived.Deep.RegionHeld3
import Derived.Deep.CutRange
import Derived.Deep.CutBlock
namespace Go.Proofs.Ybulkxiu
open Go.RowKit
set_option maxRecDepth 1000000

def firstLoop : Code → Option Code
  | .loop c => some c
  | .seq a b => match firstLoop a with
    | some c => some c
    | none => firstLoop b
  | .block _ c => firstLoop c
  | .scope c => firstLoop c
  | .cond _ a b => match firstLoop a with
    | some c => some c
    | none => firstLoop b
  | _ => none

set_option maxHeartbeats 8000000 in
theorem round_any (code : Code) (hcode : Yba.f5.body.bind firstLoop = some code) (codeE : Code) (hcodeE : (Yba.f5.body.bind (aftBlk 2)).join = some codeE) (codeC : Code) (hcodeC : (Yba.f5.body.bind (aftCond 110)).join = some codeC) (codeB : Code) (hcodeB : Yba.f5.body.bind (inCond 130) = some codeB) (codeL : Code) (hcodeL : (Yba.f5.body.bind (aftBlk 4)).join = some codeL) (codeM : Code) (hcodeM : (Yba.f5.body.bind (aftBlk 6)).join = some codeM) (codeN : Code) (hcodeN : (Yba.f5.body.bind (aftCond 235)).join = some codeN) (codeI : Code) (hcodeI : (Yba.f5.body.bind (aftReg 39)).join = some codeI) (codeJ : Code) (hcodeJ : Yba.f5.body.bind (atReg 39) = some codeJ) (codeD : Code) (hcodeD : (Yba.f5.body.bind (aftCond 130)).join = some codeD) (w : World) (sb so len cap : Nat) (D : Nat → StepD) (HM : Aside (StepMem w sb so len D)) (hlen : len ≤ 512) (F : Fx) (hFl : F.len = len) (hFB : F.B0 = w.heap.size) (i : Nat) (s : GS) (wz : World) (I : Aside (BI F w s i wz)) (hlt : i < len)
    (c1 c2 c3 c25 c29 c34 c35 c36 c37 c38 c39 c40 c41 c42 c43 c44 c45 c46 c47 c48 c49 c350 c351 b13 b14 b15 b16 b17 b18 b19 b20 b21 b22 b23 b24 b26 b27 b28 b30 b31 b32 b33 b52 b53 b54 b55 b56 b57 b58 b59 b60 b61 b62 b63 b64 b65 b66 b67 b68 b69 b70 b71 b72 b73 b74 b75 b76 b77 b78 b79 b80 b81 b82 b83 b84 b85 b86 b87 b88 b89 b90 b91 b92 b93 b94 b95 b96 b97 b98 b99 b100 b101 b102 b103 b104 b105 b106 b107 b108 b109 b110 b111 b112 b113 b114 b115 b116 b117 b118 b119 b120 b121 b122 b123 b124 b125 b126 b127 b128 b129 b130 b131 b132 b133 b134 b135 b136 b137 b138 b139 b140 b141 b142 b143 b144 b145 b146 b147 b148 b149 b150 b151 b152 b153 b154 b155 b156 b157 b158 b159 b160 b161 b162 b163 b164 b165 b166 b167 b168 b169 b170 b171 b172 b173 b174 b175 b176 b177 b178 b179 b180 b181 b182 b183 b184 b185 b186 b187 b188 b189 b190 b191 b192 b193 b194 b195 b196 b197 b198 b199 b200 b201 b202 b203 b204 b205 b206 b207 b208 b209 b210 b211 b212 b213 b214 b215 b216 b217 b218 b219 b220 b221 b222 b223 b224 b225 b226 b227 b228 b229 b230 b231 b232 b233 b234 b235 b236 b237 b238 b239 b240 b241 b242 b243 b244 b245 b246 b247 b248 b249 b250 b251 b252 b253 b254 b255 b256 b257 b258 b259 b260 b261 b262 b263 b264 b265 b266 b267 b268 b269 b270 b271 b272 b273 b274 b275 b276 b277 b278 b279 b280 b281 b282 b283 b284 b285 b286 b287 b288 b289 b290 b291 b292 b293 b294 b295 b296 b297 b298 b299 b300 b301 b302 b303 b304 b305 b306 b307 b308 b309 b310 b311 b312 b313 b314 b315 b316 b317 b318 b319 b320 b321 b322 b323 b324 b325 b326 b327 b328 b329 b330 b331 b332 b333 b334 b335 b336 b337 b338 b339 b340 b341 b342 b343 b344 b345 b346 b347 b348 b349 : Value) (KK K1 : Act → World → Prop) (post : Ending → World → Prop)
    (hend : ∀ (e13 e14 e15 e16 e17 e18 e19 e20 e21 e22 e23 e24 e26 e27 e28 e30 e31 e32 e33 e52 e53 e54 e55 e56 e57 e58 e59 e60 e61 e62 e63 e64 e65 e66 e67 e68 e69 e70 e71 e72 e73 e74 e75 e76 e77 e78 e79 e80 e81 e82 e83 e84 e85 e86 e87 e88 e89 e90 e91 e92 e93 e94 e95 e96 e97 e98 e99 e100 e101 e102 e103 e104 e105 e106 e107 e108 e109 e110 e111 e112 e113 e114 e115 e116 e117 e118 e119 e120 e121 e122 e123 e124 e125 e126 e127 e128 e129 e130 e131 e132 e133 e134 e135 e136 e137 e138 e139 e140 e141 e142 e143 e144 e145 e146 e147 e148 e149 e150 e151 e152 e153 e154 e155 e156 e157 e158 e159 e160 e161 e162 e163 e164 e165 e166 e167 e168 e169 e170 e171 e172 e173 e174 e175 e176 e177 e178 e179 e180 e181 e182 e183 e184 e185 e186 e187 e188 e189 e190 e191 e192 e193 e194 e195 e196 e197 e198 e199 e200 e201 e202 e203 e204 e205 e206 e207 e208 e209 e210 e211 e212 e213 e214 e215 e216 e217 e218 e219 e220 e221 e222 e223 e224 e225 e226 e227 e228 e229 e230 e231 e232 e233 e234 e235 e236 e237 e238 e239 e240 e241 e242 e243 e244 e245 e246 e247 e248 e249 e250 e251 e252 e253 e254 e255 e256 e257 e258 e259 e260 e261 e262 e263 e264 e265 e266 e267 e268 e269 e270 e271 e272 e273 e274 e275 e276 e277 e278 e279 e280 e281 e282 e283 e284 e285 e286 e287 e288 e289 e290 e291 e292 e293 e294 e295 e296 e297 e298 e299 e300 e301 e302 e303 e304 e305 e306 e307 e308 e309 e310 e311 e312 e313 e314 e315 e316 e317 e318 e319 e320 e321 e322 e323 e324 e325 e326 e327 e328 e329 e330 e331 e332 e333 e334 e335 e336 e337 e338 e339 e340 e341 e342 e343 e344 e345 e346 e347 e348 e349 : Value) (s' : GS) (w' : World), BI F w s' (i + 1) w' → KK ⟨#[.slice (some ⟨sb, so, none⟩) len cap, c1, c2, c3, .pointer (some ⟨F.tyB, 0, none⟩), .pointer (some ⟨F.kyB, 0, none⟩), .pointer (some ⟨F.gB, 0, none⟩), .pointer (some ⟨F.xB, 0, none⟩), .pointer (some ⟨F.mB, 0, none⟩), s'.recsV, s'.idbV, .slice (some ⟨F.sE, 0, none⟩) len len, .slice (some ⟨F.nO, 0, none⟩) len len, e13, e14, e15, e16, e17, e18, e19, e20, e21, e22, e23, e24, c25, e26, e27, e28, c29, e30, e31, e32, e33, c34, c35, c36, c37, c38, c39, c40, c41, c42, c43, c44, c45, c46, c47, c48, c49, .int .i64 (len : Int), .int .i64 ((i : Int) + 1), e52, e53, e54, e55, e56, e57, e58, e59, e60, e61, e62, e63, e64, e65, e66, e67, e68, e69, e70, e71, e72, e73, e74, e75, e76, e77, e78, e79, e80, e81, e82, e83, e84, e85, e86, e87, e88, e89, e90, e91, e92, e93, e94, e95, e96, e97, e98, e99, e100, e101, e102, e103, e104, e105, e106, e107, e108, e109, e110, e111, e112, e113, e114, e115, e116, e117, e118, e119, e120, e121, e122, e123, e124, e125, e126, e127, e128, e129, e130, e131, e132, e133, e134, e135, e136, e137, e138, e139, e140, e141, e142, e143, e144, e145, e146, e147, e148, e149, e150, e151, e152, e153, e154, e155, e156, e157, e158, e159, e160, e161, e162, e163, e164, e165, e166, e167, e168, e169, e170, e171, e172, e173, e174, e175, e176, e177, e178, e179, e180, e181, e182, e183, e184, e185, e186, e187, e188, e189, e190, e191, e192, e193, e194, e195, e196, e197, e198, e199, e200, e201, e202, e203, e204, e205, e206, e207, e208, e209, e210, e211, e212, e213, e214, e215, e216, e217, e218, e219, e220, e221, e222, e223, e224, e225, e226, e227, e228, e229, e230, e231, e232, e233, e234, e235, e236, e237, e238, e239, e240, e241, e242, e243, e244, e245, e246, e247, e248, e249, e250, e251, e252, e253, e254, e255, e256, e257, e258, e259, e260, e261, e262, e263, e264, e265, e266, e267, e268, e269, e270, e271, e272, e273, e274, e275, e276, e277, e278, e279, e280, e281, e282, e283, e284, e285, e286, e287, e288, e289, e290, e291, e292, e293, e294, e295, e296, e297, e298, e299, e300, e301, e302, e303, e304, e305, e306, e307, e308, e309, e310, e311, e312, e313, e314, e315, e316, e317, e318, e319, e320, e321, e322, e323, e324, e325, e326, e327, e328, e329, e330, e331, e332, e333, e334, e335, e336, e337, e338, e339, e340, e341, e342, e343, e344, e345, e346, e347, e348, e349, c350, c351], []⟩ w') :
    let Q' : Exit → Act → World → Prop := bodyPost Yba.prog Yba.f5 post
    Code.wp Yba.prog code (Exit.then KK (Exit.inBlock 0 (Exit.then K1 Q'))) ⟨#[.slice (some ⟨sb, so, none⟩) len cap, c1, c2, c3, .pointer (some ⟨F.tyB, 0, none⟩), .pointer (some ⟨F.kyB, 0, none⟩), .pointer (some ⟨F.gB, 0, none⟩), .pointer (some ⟨F.xB, 0, none⟩), .pointer (some ⟨F.mB, 0, none⟩), s.recsV, s.idbV, .slice (some ⟨F.sE, 0, none⟩) len len, .slice (some ⟨F.nO, 0, none⟩) len len, b13, b14, b15, b16, b17, b18, b19, b20, b21, b22, b23, b24, c25, b26, b27, b28, c29, b30, b31, b32, b33, c34, c35, c36, c37, c38, c39, c40, c41, c42, c43, c44, c45, c46, c47, c48, c49, .int .i64 (len : Int), .int .i64 (i : Int), b52, b53, b54, b55, b56, b57, b58, b59, b60, b61, b62, b63, b64, b65, b66, b67, b68, b69, b70, b71, b72, b73, b74, b75, b76, b77, b78, b79, b80, b81, b82, b83, b84, b85, b86, b87, b88, b89, b90, b91, b92, b93, b94, b95, b96, b97, b98, b99, b100, b101, b102, b103, b104, b105, b106, b107, b108, b109, b110, b111, b112, b113, b114, b115, b116, b117, b118, b119, b120, b121, b122, b123, b124, b125, b126, b127, b128, b129, b130, b131, b132, b133, b134, b135, b136, b137, b138, b139, b140, b141, b142, b143, b144, b145, b146, b147, b148, b149, b150, b151, b152, b153, b154, b155, b156, b157, b158, b159, b160, b161, b162, b163, b164, b165, b166, b167, b168, b169, b170, b171, b172, b173, b174, b175, b176, b177, b178, b179, b180, b181, b182, b183, b184, b185, b186, b187, b188, b189, b190, b191, b192, b193, b194, b195, b196, b197, b198, b199, b200, b201, b202, b203, b204, b205, b206, b207, b208, b209, b210, b211, b212, b213, b214, b215, b216, b217, b218, b219, b220, b221, b222, b223, b224, b225, b226, b227, b228, b229, b230, b231, b232, b233, b234, b235, b236, b237, b238, b239, b240, b241, b242, b243, b244, b245, b246, b247, b248, b249, b250, b251, b252, b253, b254, b255, b256, b257, b258, b259, b260, b261, b262, b263, b264, b265, b266, b267, b268, b269, b270, b271, b272, b273, b274, b275, b276, b277, b278, b279, b280, b281, b282, b283, b284, b285, b286, b287, b288, b289, b290, b291, b292, b293, b294, b295, b296, b297, b298, b299, b300, b301, b302, b303, b304, b305, b306, b307, b308, b309, b310, b311, b312, b313, b314, b315, b316, b317, b318, b319, b320, b321, b322, b323, b324, b325, b326, b327, b328, b329, b330, b331, b332, b333, b334, b335, b336, b337, b338, b339, b340, b341, b342, b343, b344, b345, b346, b347, b348, b349, c350, c351], []⟩ wz := by
  intro Q'
  conv at hcode => lhs; whnf
  injection hcode with hcode
  subst hcode
  have HCE := toAside hcodeE
  have HCC := toAside hcodeC
  have HCB := toAside hcodeB
  have HCL := toAside hcodeL
  have HCM := toAside hcodeM
  have HCN := toAside hcodeN
  have HCI := toAside hcodeI
  have HCJ := toAside hcodeJ
  have HCD := toAside hcodeD
  clear hcodeC hcodeB hcodeL hcodeM hcodeN hcodeI hcodeJ hcodeD
  conv at hcodeE => lhs; whnf
  injection hcodeE with hcodeE
  subst hcodeE
  have HE := toAside hend
  clear hend
  have i0 : (0 : Int) ≤ (i : Int) := by omega
  have i1 : (i : Int) < (len : Int) := by omega
  have ID := id_any i wz (by omega)
  obtain ⟨d0, d1, d2, d3, d4, d5, dl, ca, cc, d6, d7⟩ := HM.out i hlt
  have D0 := toAside d0
  have D1 := toAside d1
  have D2 := toAside d2
  have D3 := toAside (⟨d3, d4, d5⟩ : _ ∧ _ ∧ _)
  have D6 := toAside d6
  have D7 := toAside d7
  clear d0 d1 d2 d3 d4 d5 d6 d7
  go_wp2_with fail
  refine ID.mono ?_
  rintro e w1 ⟨rfl, rfl⟩
  dsimp only
  obtain ⟨wa, hwa⟩ : ∃ W, W = wz.alloc (.cells #[.int .u8 101, .int .u8 (97 + (i : Int) / 26), .int .u8 (97 + (i : Int) % 26)] 5) := ⟨_, rfl⟩
  obtain ⟨tga, IA⟩ : ∃ tga, Aside (LS F w s i [] tga (.slice none 0 0) (.slice none 0 0) wa) := by
    rw [hwa]
    exact ⟨_, ⟨I.out.fr (Fr.of_alloc (fun _ => False) wz s.tg _ 18) (fun _ q => q.elim), RowF.nil _ _ _ _ _ _ _, RowF.nil _ _ _ _ _ _ _⟩⟩
  rw [← hwa]
  clear hwa ID I
  go_upto_block 2 with fail
  go_cut [16, 17, 18, 19, 20] from 52 to 349 (fun v16 v17 v18 v19 v20 wx => ∃ tgx, Aside (LS F w s i (csOf i (D i)) tgx v16 v17 wx))
  case first =>
    go_wp2_with fail
    go_loopg [16, 17, 18] (min (D i).cl 16) (fun kx s16 s17 s18 wx => ∃ (t : Nat) (tgx : Nat → Nat), s18 = .int .i64 t ∧ t ≤ min (D i).cl 16 ∧ min (D i).cl 16 - t ≤ kx ∧ Aside (LS F w s i (citeL i (D i) t) tgx s16 s17 wx))
    case atStart => exact ⟨0, tga, rfl, Nat.zero_le _, by omega, IA⟩
    case round =>
      clear IA
      obtain ⟨t, tgx, rfl, htn, hkx, IX⟩ := hrel
      have x3 : wr.cell? ⟨sb, so + i * 4 + 3, none⟩ = some (.slice ca (D i).cl cc) := IX.out.b.step D6.out hFB
      by_cases hlt2 : t < min (D i).cl 16
      · have hlt3 : t < (D i).cl := by omega
        obtain ⟨b, o, hca, y1, y2⟩ := D7.out t hlt3 (by omega)
        subst hca
        have x4 : wr.cell? ⟨b, o + t, none⟩ = some (.int .u8 ((D i).ct t : Nat)) := IX.out.b.step y1 hFB
        have t0 : (0 : Int) ≤ (t : Int) := by omega
        have t1 : (t : Int) < ((D i).cl : Int) := by omega
        have t2 : (t : Int) < 16 := by omega
        obtain ⟨cs, hcs⟩ : ∃ cs, cs = citeL i (D i) t := ⟨_, rfl⟩
        have HCL : Hid (cs.length = t) := (by rw [hcs]; exact citeL_len _ _ _ : cs.length = t)
        have HCS : Hid (citeL i (D i) (t + 1) = cs ++ [citeAt i ((D i).ct t)]) := (by rw [hcs]; exact citeL_succ _ _ _ : citeL i (D i) (t + 1) = cs ++ [citeAt i ((D i).ct t)])
        rw [← hcs] at IX
        clear y1 hcs
        have HBX0 : Aside (F.B0 ≤ wr.heap.size) := IX.out.b.sz
        obtain ⟨tA, qi, qz0, qz1, qz2⟩ := info_parts info3
        have hiA := toAside qi
        have hz0A := toAside qz0
        have hz1A := toAside qz1
        have hz2A := toAside qz2
        clear qi qz0 qz1 qz2
        obtain ⟨tB, qi, qz0, qz1, qz2⟩ := info_parts info9
        have hiB := toAside qi
        have hz0B := toAside qz0
        have hz1B := toAside qz1
        have hz2B := toAside qz2
        clear qi qz0 qz1 qz2
        by_cases hz : i = 0 ∨ (D i).ct t = 255
        · have hca : citeAt i ((D i).ct t) = none := if_pos hz
          rw [hca] at HCS
          have hor : ((i : Int) == 0) = true ∨ ((i : Int) == 0) = false ∧ (((D i).ct t : Int) == 255) = true := by
            rcases Nat.eq_zero_or_pos i with h | h
            · left; simp [h]
            · right
              refine ⟨by simp; omega, ?_⟩
              rcases hz with h2 | h2
              · omega
              · simp [h2]
          clear hz hca
          have RA : Aside (RowF F.B0 (wr.alloc (.cells #[.int .i64 (-1)] 3)) (nT tgx wr.heap.size 18) 29 3 1 u16 cs.length (csC cs)) := IX.out.r16.fr (Fr.of_alloc (fun _ => False) wr tgx _ 18) (fun q => q)
          have HBX : Aside (F.B0 ≤ (wr.alloc (.cells #[.int .i64 (-1)] 3)).heap.size) := (by have := HBX0.out; simp; omega : F.B0 ≤ (wr.alloc (.cells #[.int .i64 (-1)] 3)).heap.size)
          rcases hor with hor | ⟨hor, hor2⟩
          · go_wp2_with (first | (at_builtin; refine wpList_rowF rfl (.tmp 85) (.tmp 86) 75 rfl tA _ 8 Yba.underlying75 hiA.out hz0A.out hz1A.out hz2A.out rfl (by decide) rfl RA.out ⟨_, 0, none⟩ 1 [.int .i64 (-1)] rfl rfl (news1 _ _ _ _ (by simp)) (snoc_news _ rfl) (by unfold maxLen; have := HCL.out; omega) (by have := HCL.out; omega) HBX.out (csC (cs ++ [none])) (csC_old cs none) (csC_new cs none) ?_; intro g1 c1a w1 r1 f1; obtain ⟨tg1, F1, R1⟩ : ∃ tg1, Aside (Fr (fun T => T = 29) wr tgx w1 tg1) ∧ Aside (RowF F.B0 w1 tg1 29 3 1 (.slice (some ⟨g1, 0, none⟩) (cs.length + 1) c1a) (cs.length + 1) (csC (cs ++ [none]))) := ⟨_, (Fr.of_alloc (fun T => T = 29) wr tgx (.cells #[.int .i64 (-1)] 3) 18).trans f1, r1⟩; have HB1 : Aside (F.B0 ≤ w1.heap.size) := Nat.le_trans HBX0.out F1.out.size; have RB := toAside (IX.out.r17.fr F1.out (by omega)); clear r1 f1 RA) | (at_builtin; refine wpList_rowF rfl (.tmp 88) (.tmp 89) 52 rfl tB _ 16 Yba.underlying52 hiB.out hz0B.out hz1B.out hz2B.out rfl (by decide) rfl ((RB.out).fr (Fr.of_alloc (fun _ => False) w1 tg1 (.cells #[Value.string ⟨#[122, 122]⟩] 9) 18) (fun q => q)) ⟨_, 0, none⟩ 1 [Value.string ⟨#[122, 122]⟩] rfl rfl (news1 _ _ _ _ (by simp)) (snoc_news _ rfl) (by unfold maxLen; have := HCL.out; omega) (by have := HCL.out; omega) (by have := HB1.out; simp; omega) (ctC (cs ++ [none])) (ctC_old cs none) (ctC_new cs none) ?_; intro g3 c3a w3 r3 f3; have R3 := toAside r3; have F3 := toAside ((Fr.of_alloc (fun T => T = 33) w1 tg1 (.cells #[Value.string ⟨#[122, 122]⟩] 9) 18).trans f3); clear r3 f3 RB))
            go_roundg (min (D i).cl 16 - (t + 1))
            case measure => omega
            case rel =>
              obtain ⟨tg3, L3⟩ : ∃ tg3, Aside (LS F w s i _ tg3 _ _ w3) := ⟨_, IX.out.add F1.out R1.out (Fr.refl (fun _ => False) _ _) F3.out R3.out⟩
              refine ⟨t + 1, tg3, by go_num, by omega, Nat.le_refl _, ?_⟩
              rw [HCS.out]
              exact L3
          · go_wp2_with (first | (at_builtin; refine wpList_rowF rfl (.tmp 85) (.tmp 86) 75 rfl tA _ 8 Yba.underlying75 hiA.out hz0A.out hz1A.out hz2A.out rfl (by decide) rfl RA.out ⟨_, 0, none⟩ 1 [.int .i64 (-1)] rfl rfl (news1 _ _ _ _ (by simp)) (snoc_news _ rfl) (by unfold maxLen; have := HCL.out; omega) (by have := HCL.out; omega) HBX.out (csC (cs ++ [none])) (csC_old cs none) (csC_new cs none) ?_; intro g1 c1a w1 r1 f1; obtain ⟨tg1, F1, R1⟩ : ∃ tg1, Aside (Fr (fun T => T = 29) wr tgx w1 tg1) ∧ Aside (RowF F.B0 w1 tg1 29 3 1 (.slice (some ⟨g1, 0, none⟩) (cs.length + 1) c1a) (cs.length + 1) (csC (cs ++ [none]))) := ⟨_, (Fr.of_alloc (fun T => T = 29) wr tgx (.cells #[.int .i64 (-1)] 3) 18).trans f1, r1⟩; have HB1 : Aside (F.B0 ≤ w1.heap.size) := Nat.le_trans HBX0.out F1.out.size; have RB := toAside (IX.out.r17.fr F1.out (by omega)); clear r1 f1 RA) | (at_builtin; refine wpList_rowF rfl (.tmp 88) (.tmp 89) 52 rfl tB _ 16 Yba.underlying52 hiB.out hz0B.out hz1B.out hz2B.out rfl (by decide) rfl ((RB.out).fr (Fr.of_alloc (fun _ => False) w1 tg1 (.cells #[Value.string ⟨#[122, 122]⟩] 9) 18) (fun q => q)) ⟨_, 0, none⟩ 1 [Value.string ⟨#[122, 122]⟩] rfl rfl (news1 _ _ _ _ (by simp)) (snoc_news _ rfl) (by unfold maxLen; have := HCL.out; omega) (by have := HCL.out; omega) (by have := HB1.out; simp; omega) (ctC (cs ++ [none])) (ctC_old cs none) (ctC_new cs none) ?_; intro g3 c3a w3 r3 f3; have R3 := toAside r3; have F3 := toAside ((Fr.of_alloc (fun T => T = 33) w1 tg1 (.cells #[Value.string ⟨#[122, 122]⟩] 9) 18).trans f3); clear r3 f3 RB))
            go_roundg (min (D i).cl 16 - (t + 1))
            case measure => omega
            case rel =>
              obtain ⟨tg3, L3⟩ : ∃ tg3, Aside (LS F w s i _ tg3 _ _ w3) := ⟨_, IX.out.add F1.out R1.out (Fr.refl (fun _ => False) _ _) F3.out R3.out⟩
              refine ⟨t + 1, tg3, by go_num, by omega, Nat.le_refl _, ?_⟩
              rw [HCS.out]
              exact L3
        · have hi0 : ¬ i = 0 := fun h => hz (Or.inl h)
          have hc5 : ¬ (D i).ct t = 255 := fun h => hz (Or.inr h)
          have hca : citeAt i ((D i).ct t) = some ((D i).ct t % i) := if_neg hz
          obtain ⟨jj, hjj⟩ : ∃ jj, jj = (D i).ct t % i := ⟨_, rfl⟩
          have hjl : jj < i := by rw [hjj]; exact Nat.mod_lt _ (by omega)
          rw [hca, ← hjj] at HCS
          have b1 : ((i : Int) == 0) = false := by simp; omega
          have b2 : (((D i).ct t : Int) == 255) = false := by simp; omega
          have b3 : ((i : Int) = 0) = False := by simp; omega
          have b3' : ¬ (i : Int) = 0 := by omega
          have wv1 : IntKind.i64.wrap (((D i).ct t : Nat) : Int) = ((D i).ct t : Int) := by rw [IntKind.wrap_i64]; omega
          have b4 : (((D i).ct t : Nat) : Int).tmod (i : Int) = (jj : Int) := by rw [hjj, Int.tmod_eq_emod_of_nonneg (by omega)]; omega
          have wv2 : IntKind.i64.wrap (jj : Int) = (jj : Int) := by rw [IntKind.wrap_i64]; omega
          have IDJ : Aside (∀ W, Calls Yba.prog 10 #[.int .i64 (jj : Int)] W fun e w' => e = .returned (.string (idS jj)) ∧ w' = W.alloc (.cells #[.int .u8 101, .int .u8 (97 + (jj : Int) / 26), .int .u8 (97 + (jj : Int) % 26)] 5)) := fun W => id_any jj W (by omega)
          clear hz hca hjj hi0 hc5
          have RA : Aside (RowF F.B0 (wr.alloc (.cells #[.int .i64 (jj : Int)] 3)) (nT tgx wr.heap.size 18) 29 3 1 u16 cs.length (csC cs)) := IX.out.r16.fr (Fr.of_alloc (fun _ => False) wr tgx _ 18) (fun q => q)
          have HBX : Aside (F.B0 ≤ (wr.alloc (.cells #[.int .i64 (jj : Int)] 3)).heap.size) := (by have := HBX0.out; simp; omega : F.B0 ≤ (wr.alloc (.cells #[.int .i64 (jj : Int)] 3)).heap.size)
          go_wp2_with (first | (at_builtin; refine wpList_rowF rfl (.tmp 95) (.tmp 97) 75 rfl tA _ 8 Yba.underlying75 hiA.out hz0A.out hz1A.out hz2A.out rfl (by decide) rfl RA.out ⟨_, 0, none⟩ 1 [Value.int .i64 (jj : Int)] rfl rfl (news1 _ _ _ _ (by simp)) (snoc_news _ rfl) (by unfold maxLen; have := HCL.out; omega) (by have := HCL.out; omega) HBX.out (csC (cs ++ [(some jj)])) (csC_old cs (some jj)) (csC_new cs (some jj)) ?_; intro g1 c1a w1 r1 f1; obtain ⟨tg1, F1, R1⟩ : ∃ tg1, Aside (Fr (fun T => T = 29) wr tgx w1 tg1) ∧ Aside (RowF F.B0 w1 tg1 29 3 1 (.slice (some ⟨g1, 0, none⟩) (cs.length + 1) c1a) (cs.length + 1) (csC (cs ++ [(some jj)]))) := ⟨_, (Fr.of_alloc (fun T => T = 29) wr tgx (.cells #[Value.int .i64 (jj : Int)] 3) 18).trans f1, r1⟩; have HB1 : Aside (F.B0 ≤ w1.heap.size) := Nat.le_trans HBX0.out F1.out.size; have RB := toAside (IX.out.r17.fr F1.out (by omega)); clear r1 f1 RA) | fail)
          refine (IDJ.out _).mono ?_
          rintro e w2 ⟨rfl, hw2⟩
          dsimp only
          obtain ⟨tg2, F2⟩ : ∃ tg2, Aside (Fr (fun _ => False) w1 tg1 w2 tg2) := ⟨nT tg1 w1.heap.size 18, by rw [hw2]; exact toAside (Fr.of_alloc (fun _ => False) w1 tg1 _ 18)⟩
          have HB2 : Aside (F.B0 ≤ w2.heap.size) := Nat.le_trans HB1.out F2.out.size
          clear hw2
          go_wp2_with (first | (at_builtin; refine wpList_rowF rfl (.tmp 99) (.tmp 102) 52 rfl tB _ 16 Yba.underlying52 hiB.out hz0B.out hz1B.out hz2B.out rfl (by decide) rfl ((RB.out.fr F2.out (fun q => q)).fr (Fr.of_alloc (fun _ => False) w2 tg2 (.cells #[Value.string (idS jj)] 9) 18) (fun q => q)) ⟨_, 0, none⟩ 1 [Value.string (idS jj)] rfl rfl (news1 _ _ _ _ (by simp)) (snoc_news _ rfl) (by unfold maxLen; have := HCL.out; omega) (by have := HCL.out; omega) (by have := HB2.out; simp; omega) (ctC (cs ++ [(some jj)])) (ctC_old cs (some jj)) (ctC_new cs (some jj)) ?_; intro g3 c3a w3 r3 f3; have R3 := toAside r3; have F3 := toAside ((Fr.of_alloc (fun T => T = 33) w2 tg2 (.cells #[Value.string (idS jj)] 9) 18).trans f3); clear r3 f3 RB))
          go_roundg (min (D i).cl 16 - (t + 1))
          case measure => omega
          case rel =>
            obtain ⟨tg3, L3⟩ : ∃ tg3, Aside (LS F w s i _ tg3 _ _ w3) := ⟨_, IX.out.add F1.out R1.out F2.out F3.out R3.out⟩
            refine ⟨t + 1, tg3, by go_num, by omega, Nat.le_refl _, ?_⟩
            rw [HCS.out]
            exact L3
      · obtain rfl : t = min (D i).cl 16 := by omega
        have HTE : Hid (citeL i (D i) (min (D i).cl 16) = csOf i (D i)) := rfl
        obtain ⟨tm, htm⟩ : ∃ tm, tm = min (D i).cl 16 := ⟨_, rfl⟩
        rw [← htm] at IX HTE ⊢
        by_cases hc16 : 16 < (D i).cl
        · have g1 : (tm : Int) < ((D i).cl : Int) := by omega
          have g2 : ¬ (tm : Int) < 16 := by omega
          have g2' : decide ((tm : Int) < 16) = false := decide_eq_false g2
          clear hc16
          go_wp2
          go_meet
          rw [HTE.out] at IX
          exact ⟨tgx, IX⟩
        · have g1 : ¬ (tm : Int) < ((D i).cl : Int) := by omega
          have g1' : decide ((tm : Int) < ((D i).cl : Int)) = false := decide_eq_false g1
          clear hc16
          go_wp2
          go_meet
          rw [HTE.out] at IX
          exact ⟨tgx, IX⟩

  case rest =>
    obtain ⟨tgx, L⟩ := hcut
    rename_i hK9
    refine hK9 _ _ (partE i _ HCE.out w sb so len cap D D0 D1 D2 F hFB hFl hlt hlen s _ tgx _ _ _ _ _ _ _ _ _ _ _ _ _ _ _ _ _ _ _ _ _ _ _ _ _ _ _ _ _ _ _ _ _ _ _ _ _ _ _ _ _ _ _ _ _ _ _ _ _ _ _ _ _ _ _ _ _ _ _ _ _ _ _ _ _ _ _ _ _ _ _ _ _ _ _ _ _ _ _ _ _ _ _ _ _ _ _ _ _ _ _ _ _ _ _ _ _ _ _ _ _ _ _ _ _ _ _ _ _ _ _ _ _ _ _ _ _ _ _ _ _ _ _ _ _ _ _ _ _ _ _ _ _ _ _ _ _ _ _ _ _ _ _ _ _ _ _ _ _ _ _ _ _ _ _ _ _ _ _ _ _ _ _ _ _ _ _ _ _ _ _ _ _ _ _ _ _ _ _ _ _ _ _ _ _ _ _ _ _ _ _ _ _ _ _ _ _ _ _ _ _ _ _ _ _ _ _ _ _ _ _ _ _ _ _ _ _ _ _ _ _ _ _ _ _ _ _ _ _ _ _ _ _ _ _ _ _ _ _ _ _ _ _ _ _ _ _ _ _ _ _ _ _ _ _ _ _ _ _ _ _ _ _ _ _ _ _ _ _ _ _ _ _ _ _ _ _ _ _ _ _ _ _ _ _ _ _ _ _ _ _ _ _ _ _ _ _ _ _ _ _ _ _ _ _ _ _ _ _ _ _ _ _ _ _ _ _ _ _ _ _ _ _ _ _ _ _ _ _ _ _ _ _ _ _ _ _ L _ KK K1 post _ HCC.out _ HCB.out _ HCL.out _ HCM.out _ HCN.out _ HCI.out _ HCJ.out _ HCD.out ?_)
    intro e16 e17 e18 e19 e20 e21 e22 e23 e24 e26 e27 e28 e30 e31 e32 e33 e52 e53 e54 e55 e56 e57 e58 e59 e60 e61 e62 e63 e64 e65 e66 e67 e68 e69 e70 e71 e72 e73 e74 e75 e76 e77 e78 e79 e80 e81 e82 e83 e84 e85 e86 e87 e88 e89 e90 e91 e92 e93 e94 e95 e96 e97 e98 e99 e100 e101 e102 e103 e104 e105 e106 e107 e108 e109 e110 e111 e112 e113 e114 e115 e116 e117 e118 e119 e120 e121 e122 e123 e124 e125 e126 e127 e128 e129 e130 e131 e132 e133 e134 e135 e136 e137 e138 e139 e140 e141 e142 e143 e144 e145 e146 e147 e148 e149 e150 e151 e152 e153 e154 e155 e156 e157 e158 e159 e160 e161 e162 e163 e164 e165 e166 e167 e168 e169 e170 e171 e172 e173 e174 e175 e176 e177 e178 e179 e180 e181 e182 e183 e184 e185 e186 e187 e188 e189 e190 e191 e192 e193 e194 e195 e196 e197 e198 e199 e200 e201 e202 e203 e204 e205 e206 e207 e208 e209 e210 e211 e212 e213 e214 e215 e216 e217 e218 e219 e220 e221 e222 e223 e224 e225 e226 e227 e228 e229 e230 e231 e232 e233 e234 e235 e236 e237 e238 e239 e240 e241 e242 e243 e244 e245 e246 e247 e248 e249 e250 e251 e252 e253 e254 e255 e256 e257 e258 e259 e260 e261 e262 e263 e264 e265 e266 e267 e268 e269 e270 e271 e272 e273 e274 e275 e276 e277 e278 e279 e280 e281 e282 e283 e284 e285 e286 e287 e288 e289 e290 e291 e292 e293 e294 e295 e296 e297 e298 e299 e300 e301 e302 e303 e304 e305 e306 e307 e308 e309 e310 e311 e312 e313 e314 e315 e316 e317 e318 e319 e320 e321 e322 e323 e324 e325 e326 e327 e328 e329 e330 e331 e332 e333 e334 e335 e336 e337 e338 e339 e340 e341 e342 e343 e344 e345 e346 e347 e348 e349 s' w' hB
    go_wp2
    exact HE.out _ _ _ _ _ _ _ _ _ _ _ _ _ _ _ _ _ _ _ _ _ _ _ _ _ _ _ _ _ _ _ _ _ _ _ _ _ _ _ _ _ _ _ _ _ _ _ _ _ _ _ _ _ _ _ _ _ _ _ _ _ _ _ _ _ _ _ _ _ _ _ _ _ _ _ _ _ _ _ _ _ _ _ _ _ _ _ _ _ _ _ _ _ _ _ _ _ _ _ _ _ _ _ _ _ _ _ _ _ _ _ _ _ _ _ _ _ _ _ _ _ _ _ _ _ _ _ _ _ _ _ _ _ _ _ _ _ _ _ _ _ _ _ _ _ _ _ _ _ _ _ _ _ _ _ _ _ _ _ _ _ _ _ _ _ _ _ _ _ _ _ _ _ _ _ _ _ _ _ _ _ _ _ _ _ _ _ _ _ _ _ _ _ _ _ _ _ _ _ _ _ _ _ _ _ _ _ _ _ _ _ _ _ _ _ _ _ _ _ _ _ _ _ _ _ _ _ _ _ _ _ _ _ _ _ _ _ _ _ _ _ _ _ _ _ _ _ _ _ _ _ _ _ _ _ _ _ _ _ _ _ _ _ _ _ _ _ _ _ _ _ _ _ _ _ _ _ _ _ _ _ _ _ _ _ _ _ _ _ _ _ _ _ _ _ _ _ _ _ _ _ _ _ _ _ _ _ _ _ _ _ _ _ _ _ _ _ s' w' hB
end Go.Proofs.Ybulkxiu
