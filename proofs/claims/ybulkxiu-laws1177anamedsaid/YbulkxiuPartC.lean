import Derived.Test.YbulkxiuPartN1
import Derived.Test.YbulkxiuEs
import Derived.Test.YbulkxiuPartB
import Derived.Test.YbulkxiuAdd
import Derived.Deep.RegionLaw
import Derived.Deep.CutRange
import Derived.Deep.CutBlock
namespace Go.Proofs.Ybulkxiu
open Go.RowKit Go.Lib
set_option maxRecDepth 1000000

set_option maxHeartbeats 8000000 in
theorem partC (i : Nat) (code : Code) (hcode : (Yba.f5.body.bind (aftCond 110)).join = some code) (w : World) (sb so len cap : Nat) (D : Nat → StepD) (F : Fx) (hFl : F.len = len) (hlt : i < len) (s : GS) (wc : World) (tgx : Nat → Nat) (evo : Option Nat) (he : evo = none ↔ (D i).kind % 4 = 2)
    (c1 c2 c3 c25 c29 c34 c35 c36 c37 c38 c39 c40 c41 c42 c43 c44 c45 c46 c47 c48 c49 c350 c351 b16 b17 b18 b19 b20 b23 b24 b26 b27 b28 b30 b31 b32 b33 b52 b53 b54 b55 b56 b57 b58 b59 b60 b61 b62 b63 b64 b65 b66 b67 b68 b69 b70 b71 b72 b73 b74 b75 b76 b77 b78 b79 b80 b81 b82 b83 b84 b85 b86 b87 b88 b89 b90 b91 b92 b93 b94 b95 b96 b97 b98 b99 b100 b101 b102 b103 b104 b105 b106 b107 b108 b109 b110 b111 b112 b113 b114 b115 b116 b117 b118 b119 b120 b121 b122 b123 b124 b125 b126 b127 b128 b129 b130 b131 b132 b133 b134 b135 b136 b137 b138 b139 b140 b141 b142 b143 b144 b145 b146 b147 b148 b149 b150 b151 b152 b153 b154 b155 b156 b157 b158 b159 b160 b161 b162 b163 b164 b165 b166 b167 b168 b169 b170 b171 b172 b173 b174 b175 b176 b177 b178 b179 b180 b181 b182 b183 b184 b185 b186 b187 b188 b189 b190 b191 b192 b193 b194 b195 b196 b197 b198 b199 b200 b201 b202 b203 b204 b205 b206 b207 b208 b209 b210 b211 b212 b213 b214 b215 b216 b217 b218 b219 b220 b221 b222 b223 b224 b225 b226 b227 b228 b229 b230 b231 b232 b233 b234 b235 b236 b237 b238 b239 b240 b241 b242 b243 b244 b245 b246 b247 b248 b249 b250 b251 b252 b253 b254 b255 b256 b257 b258 b259 b260 b261 b262 b263 b264 b265 b266 b267 b268 b269 b270 b271 b272 b273 b274 b275 b276 b277 b278 b279 b280 b281 b282 b283 b284 b285 b286 b287 b288 b289 b290 b291 b292 b293 b294 b295 b296 b297 b298 b299 b300 b301 b302 b303 b304 b305 b306 b307 b308 b309 b310 b311 b312 b313 b314 b315 b316 b317 b318 b319 b320 b321 b322 b323 b324 b325 b326 b327 b328 b329 b330 b331 b332 b333 b334 b335 b336 b337 b338 b339 b340 b341 b342 b343 b344 b345 b346 b347 b348 b349 : Value) (E : Aside (ES F w s i (csOf i (D i)) evo (decide ((D i).kind % 4 ≤ 1)) (decide ((D i).typ % 2 = 1)) (decide ((D i).key % 2 = 1)) tgx b16 wc)) (KB KK K1 : Act → World → Prop) (post : Ending → World → Prop)
    (codeB : Code) (hcodeB : Yba.f5.body.bind (inCond 130) = some codeB) (codeL : Code) (hcodeL : (Yba.f5.body.bind (aftBlk 4)).join = some codeL) (codeM : Code) (hcodeM : (Yba.f5.body.bind (aftBlk 6)).join = some codeM) (codeN : Code) (hcodeN : (Yba.f5.body.bind (aftCond 235)).join = some codeN) (codeI : Code) (hcodeI : (Yba.f5.body.bind (aftReg 39)).join = some codeI) (codeJ : Code) (hcodeJ : Yba.f5.body.bind (atReg 39) = some codeJ)
    (codeD : Code) (hcodeD : (Yba.f5.body.bind (aftCond 130)).join = some codeD)
    (hD : ∀ (y23 y24 y26 y27 y28 y30 y31 y52 y53 y54 y55 y56 y57 y58 y59 y60 y61 y62 y63 y64 y65 y66 y67 y68 y69 y70 y71 y72 y73 y74 y75 y76 y77 y78 y79 y80 y81 y82 y83 y84 y85 y86 y87 y88 y89 y90 y91 y92 y93 y94 y95 y96 y97 y98 y99 y100 y101 y102 y103 y104 y105 y106 y107 y108 y109 y110 y111 y112 y113 y114 y115 y116 y117 y118 y119 y120 y121 y122 y123 y124 y125 y126 y127 y128 y129 y130 y131 y132 y133 y134 y135 y136 y137 y138 y139 y140 y141 y142 y143 y144 y145 y146 y147 y148 y149 y150 y151 y152 y153 y154 y155 y156 y157 y158 y159 y160 y161 y162 y163 y164 y165 y166 y167 y168 y169 y170 y171 y172 y173 y174 y175 y176 y177 y178 y179 y180 y181 y182 y183 y184 y185 y186 y187 y188 y189 y190 y191 y192 y193 y194 y195 y196 y197 y198 y199 y200 y201 y202 y203 y204 y205 y206 y207 y208 y209 y210 y211 y212 y213 y214 y215 y216 y217 y218 y219 y220 y221 y222 y223 y224 y225 y226 y227 y228 y229 y230 y231 y232 y233 y234 y235 y236 y237 y238 y239 y240 y241 y242 y243 y244 y245 y246 y247 y248 y249 y250 y251 y252 y253 y254 y255 y256 y257 y258 y259 y260 y261 y262 y263 y264 y265 y266 y267 y268 y269 y270 y271 y272 y273 y274 y275 y276 y277 y278 y279 y280 y281 y282 y283 y284 y285 y286 y287 y288 y289 y290 y291 y292 y293 y294 y295 y296 y297 y298 y299 y300 y301 y302 y303 y304 y305 y306 y307 y308 y309 y310 y311 y312 y313 y314 y315 y316 y317 y318 y319 y320 y321 y322 y323 y324 y325 y326 y327 y328 y329 y330 y331 y332 y333 y334 y335 y336 y337 y338 y339 y340 y341 y342 y343 y344 y345 y346 y347 y348 y349 : Value) (s' : GS) (wx : World), s'.recsV = s.recsV → s'.idbV = s.idbV → s'.evp i = evo → Aside (DR F w s' (i + 1) wx) → Aside (XI F.B0 wx s'.tg F.xB F.mb s'.nmx i s'.recsV s'.idbV s'.evp) → Code.wp Yba.prog codeD (Exit.inBlock 1 (Exit.then KB (Exit.then KK (Exit.inBlock 0 (Exit.then K1 (bodyPost Yba.prog Yba.f5 post)))))) ⟨#[.slice (some ⟨sb, so, none⟩) len cap, c1, c2, c3, .pointer (some ⟨F.tyB, 0, none⟩), .pointer (some ⟨F.kyB, 0, none⟩), .pointer (some ⟨F.gB, 0, none⟩), .pointer (some ⟨F.xB, 0, none⟩), .pointer (some ⟨F.mB, 0, none⟩), s.recsV, s.idbV, .slice (some ⟨F.sE, 0, none⟩) len len, .slice (some ⟨F.nO, 0, none⟩) len len, .int .i64 (i : Int), .pointer (some ⟨sb, so + i * 4, none⟩), .string (idS i), b16, b17, b18, b19, b20, .int .u8 (((D i).kind : Int) % 4), evV evo, y23, y24, c25, y26, y27, y28, c29, y30, y31, b32, b33, c34, c35, c36, c37, c38, c39, c40, c41, c42, c43, c44, c45, c46, c47, c48, c49, .int .i64 (len : Int), .int .i64 (i : Int), y52, y53, y54, y55, y56, y57, y58, y59, y60, y61, y62, y63, y64, y65, y66, y67, y68, y69, y70, y71, y72, y73, y74, y75, y76, y77, y78, y79, y80, y81, y82, y83, y84, y85, y86, y87, y88, y89, y90, y91, y92, y93, y94, y95, y96, y97, y98, y99, y100, y101, y102, y103, y104, y105, y106, y107, y108, y109, y110, y111, y112, y113, y114, y115, y116, y117, y118, y119, y120, y121, y122, y123, y124, y125, y126, y127, y128, y129, y130, y131, y132, y133, y134, y135, y136, y137, y138, y139, y140, y141, y142, y143, y144, y145, y146, y147, y148, y149, y150, y151, y152, y153, y154, y155, y156, y157, y158, y159, y160, y161, y162, y163, y164, y165, y166, y167, y168, y169, y170, y171, y172, y173, y174, y175, y176, y177, y178, y179, y180, y181, y182, y183, y184, y185, y186, y187, y188, y189, y190, y191, y192, y193, y194, y195, y196, y197, y198, y199, y200, y201, y202, y203, y204, y205, y206, y207, y208, y209, y210, y211, y212, y213, y214, y215, y216, y217, y218, y219, y220, y221, y222, y223, y224, y225, y226, y227, y228, y229, y230, y231, y232, y233, y234, y235, y236, y237, y238, y239, y240, y241, y242, y243, y244, y245, y246, y247, y248, y249, y250, y251, y252, y253, y254, y255, y256, y257, y258, y259, y260, y261, y262, y263, y264, y265, y266, y267, y268, y269, y270, y271, y272, y273, y274, y275, y276, y277, y278, y279, y280, y281, y282, y283, y284, y285, y286, y287, y288, y289, y290, y291, y292, y293, y294, y295, y296, y297, y298, y299, y300, y301, y302, y303, y304, y305, y306, y307, y308, y309, y310, y311, y312, y313, y314, y315, y316, y317, y318, y319, y320, y321, y322, y323, y324, y325, y326, y327, y328, y329, y330, y331, y332, y333, y334, y335, y336, y337, y338, y339, y340, y341, y342, y343, y344, y345, y346, y347, y348, y349, c350, c351], []⟩ wx) :
    let Q' : Exit → Act → World → Prop := bodyPost Yba.prog Yba.f5 post
    Code.wp Yba.prog code (Exit.inBlock 1 (Exit.then KB (Exit.then KK (Exit.inBlock 0 (Exit.then K1 Q'))))) ⟨#[.slice (some ⟨sb, so, none⟩) len cap, c1, c2, c3, .pointer (some ⟨F.tyB, 0, none⟩), .pointer (some ⟨F.kyB, 0, none⟩), .pointer (some ⟨F.gB, 0, none⟩), .pointer (some ⟨F.xB, 0, none⟩), .pointer (some ⟨F.mB, 0, none⟩), s.recsV, s.idbV, .slice (some ⟨F.sE, 0, none⟩) len len, .slice (some ⟨F.nO, 0, none⟩) len len, .int .i64 (i : Int), .pointer (some ⟨sb, so + i * 4, none⟩), .string (idS i), b16, b17, b18, b19, b20, .int .u8 (((D i).kind : Int) % 4), evV evo, b23, b24, c25, b26, b27, b28, c29, b30, b31, b32, b33, c34, c35, c36, c37, c38, c39, c40, c41, c42, c43, c44, c45, c46, c47, c48, c49, .int .i64 (len : Int), .int .i64 (i : Int), b52, b53, b54, b55, b56, b57, b58, b59, b60, b61, b62, b63, b64, b65, b66, b67, b68, b69, b70, b71, b72, b73, b74, b75, b76, b77, b78, b79, b80, b81, b82, b83, b84, b85, b86, b87, b88, b89, b90, b91, b92, b93, b94, b95, b96, b97, b98, b99, b100, b101, b102, b103, b104, b105, b106, b107, b108, b109, b110, b111, b112, b113, b114, b115, b116, b117, b118, b119, b120, b121, b122, b123, b124, b125, b126, b127, b128, b129, b130, b131, b132, b133, b134, b135, b136, b137, b138, b139, b140, b141, b142, b143, b144, b145, b146, b147, b148, b149, b150, b151, b152, b153, b154, b155, b156, b157, b158, b159, b160, b161, b162, b163, b164, b165, b166, b167, b168, b169, b170, b171, b172, b173, b174, b175, b176, b177, b178, b179, b180, b181, b182, b183, b184, b185, b186, b187, b188, b189, b190, b191, b192, b193, b194, b195, b196, b197, b198, b199, b200, b201, b202, b203, b204, b205, b206, b207, b208, b209, b210, b211, b212, b213, b214, b215, b216, b217, b218, b219, b220, b221, b222, b223, b224, b225, b226, b227, b228, b229, b230, b231, b232, b233, b234, b235, b236, b237, b238, b239, b240, b241, b242, b243, b244, b245, b246, b247, b248, b249, b250, b251, b252, b253, b254, b255, b256, b257, b258, b259, b260, b261, b262, b263, b264, b265, b266, b267, b268, b269, b270, b271, b272, b273, b274, b275, b276, b277, b278, b279, b280, b281, b282, b283, b284, b285, b286, b287, b288, b289, b290, b291, b292, b293, b294, b295, b296, b297, b298, b299, b300, b301, b302, b303, b304, b305, b306, b307, b308, b309, b310, b311, b312, b313, b314, b315, b316, b317, b318, b319, b320, b321, b322, b323, b324, b325, b326, b327, b328, b329, b330, b331, b332, b333, b334, b335, b336, b337, b338, b339, b340, b341, b342, b343, b344, b345, b346, b347, b348, b349, c350, c351], []⟩ wc := by
  intro Q'
  conv at hcode => lhs; whnf
  injection hcode with hcode
  subst hcode
  have HCB := toAside hcodeB
  have HCL := toAside hcodeL
  have HCM := toAside hcodeM
  have HCN := toAside hcodeN
  have HCI := toAside hcodeI
  have HCJ := toAside hcodeJ
  conv at hcodeB => lhs; whnf
  injection hcodeB with hcodeB
  subst hcodeB
  clear hcodeL hcodeM hcodeN hcodeI hcodeJ
  conv at hcodeD => lhs; whnf
  injection hcodeD with hcodeD
  subst hcodeD
  have HD := toAside hD
  clear hD
  go_upto_if 130 with fail
  go_cut [23, 24, 26, 27, 28, 30, 31] from 52 to 349 (fun v23 v24 v26 v27 v28 v30 v31 wx => ∃ s' : GS, s'.recsV = s.recsV ∧ s'.idbV = s.idbV ∧ s'.evp i = evo ∧ Aside (DR F w s' (i + 1) wx) ∧ Aside (XI F.B0 wx s'.tg F.xB F.mb s'.nmx i s'.recsV s'.idbV s'.evp))
  case first =>
    by_cases hk1 : (D i).kind % 4 ≤ 1
    · have hk1' : decide (((D i).kind : Int) % 4 ≤ 1) = true := decide_eq_true (by omega)
      clear HD
      cases evo with
      | none => exact absurd (he.1 rfl) (by omega)
      | some e =>
        rw [decide_eq_true hk1] at E
        obtain ⟨n1, m1, q1⟩ := E.out.nr
        have N := toAside n1
        have M := toAside m1
        have Q := toAside q1
        clear n1 m1 q1 E
        go_step
        refine partN1 i _ HCB.out _ HCL.out _ HCM.out _ HCN.out _ HCI.out _ HCJ.out w sb so len cap F hFl hlt s _ tgx e _ _ _ _ _ _ _ _ _ _ _ _ _ _ _ _ _ _ _ _ _ _ _ _ _ _ _ _ _ _ _ _ _ _ _ _ _ _ _ _ _ _ _ _ _ _ _ _ _ _ _ _ _ _ _ _ _ _ _ _ _ _ _ _ _ _ _ _ _ _ _ _ _ _ _ _ _ _ _ _ _ _ _ _ _ _ _ _ _ _ _ _ _ _ _ _ _ _ _ _ _ _ _ _ _ _ _ _ _ _ _ _ _ _ _ _ _ _ _ _ _ _ _ _ _ _ _ _ _ _ _ _ _ _ _ _ _ _ _ _ _ _ _ _ _ _ _ _ _ _ _ _ _ _ _ _ _ _ _ _ _ _ _ _ _ _ _ _ _ _ _ _ _ _ _ _ _ _ _ _ _ _ _ _ _ _ _ _ _ _ _ _ _ _ _ _ _ _ _ _ _ _ _ _ _ _ _ _ _ _ _ _ _ _ _ _ _ _ _ _ _ _ _ _ _ _ _ _ _ _ _ _ _ _ _ _ _ _ _ _ _ _ _ _ _ _ _ _ _ _ _ _ _ _ _ _ _ _ _ _ _ _ _ _ _ _ _ _ _ _ _ _ _ _ _ _ _ _ _ _ _ _ _ _ _ _ _ _ _ _ _ _ _ _ _ _ _ _ _ _ _ _ _ _ _ _ _ _ _ _ _ _ _ _ _ _ _ _ _ _ _ _ _ _ _ _ _ _ _ _ _ _ _ _ _ _ _ _ _ N M Q _ KB KK K1 post ?_
        intro z0 z1 z2 z3 z4 z5 z6 z7 z8 z9 z10 z11 z12 z13 z14 z15 z16 z17 z18 z19 z20 z21 z22 z23 z24 z25 z26 z27 z28 z29 z30 z31 z32 z33 z34 z35 z36 z37 z38 z39 z40 z41 z42 z43 z44 z45 z46 z47 z48 z49 z50 z51 z52 z53 z54 z55 z56 z57 z58 z59 z60 z61 z62 z63 z64 z65 z66 z67 z68 z69 z70 z71 z72 z73 z74 z75 z76 z77 z78 z79 z80 z81 z82 z83 z84 z85 z86 z87 z88 z89 z90 z91 z92 z93 z94 z95 z96 z97 z98 z99 z100 z101 z102 z103 z104 z105 z106 z107 z108 z109 z110 z111 z112 z113 z114 z115 z116 z117 z118 z119 z120 z121 z122 z123 z124 z125 z126 z127 z128 z129 z130 z131 z132 z133 z134 z135 z136 z137 z138 z139 z140 z141 z142 z143 z144 z145 z146 z147 z148 z149 z150 z151 z152 z153 z154 z155 z156 z157 z158 z159 z160 z161 z162 z163 z164 z165 z166 z167 z168 z169 z170 z171 z172 z173 z174 z175 z176 z177 z178 z179 z180 z181 z182 z183 z184 z185 z186 z187 z188 z189 z190 z191 z192 z193 z194 z195 z196 z197 z198 z199 z200 z201 z202 z203 z204 z205 z206 z207 z208 z209 z210 z211 z212 z213 z214 z215 z216 z217 z218 z219 z220 z221 z222 z223 z224 z225 z226 z227 z228 z229 z230 z231 z232 z233 z234 z235 z236 z237 z238 z239 z240 z241 z242 z243 z244 z245 z246 z247 z248 z249 z250 z251 z252 z253 z254 z255 z256 z257 z258 z259 z260 z261 z262 z263 z264 z265 z266 z267 z268 z269 z270 z271 z272 z273 z274 z275 z276 z277 z278 z279 z280 z281 z282 z283 z284 z285 z286 z287 z288 z289 z290 z291 z292 z293 z294 z295 z296 z297 z298 z299 z300 z301 z302 z303 z304 s' wx h1 h2 h3 d1 d2
        go_wp2
        go_meet
        exact ⟨s', h1, h2, h3, d1, d2⟩
    · have hk1' : decide (((D i).kind : Int) % 4 ≤ 1) = false := decide_eq_false (by omega)
      have hk1'' : ¬ ((D i).kind : Int) % 4 ≤ 1 := by omega
      rw [decide_eq_false hk1] at E
      obtain ⟨d1, d2⟩ := E.out.skip (by omega)
      have D1 := toAside d1
      have D2 := toAside d2
      clear d1 d2
      go_wp2
      go_meet
      exact ⟨{ s with tg := tgx, evp := upd s.evp i evo, nd := upd s.nd i 0 }, rfl, rfl, upd_same _ _ _, D1, D2⟩
  case rest =>
    obtain ⟨s', h1, h2, h3, d1, d2⟩ := hcut
    rename_i hK
    refine hK _ _ (HD.out _ _ _ _ _ _ _ _ _ _ _ _ _ _ _ _ _ _ _ _ _ _ _ _ _ _ _ _ _ _ _ _ _ _ _ _ _ _ _ _ _ _ _ _ _ _ _ _ _ _ _ _ _ _ _ _ _ _ _ _ _ _ _ _ _ _ _ _ _ _ _ _ _ _ _ _ _ _ _ _ _ _ _ _ _ _ _ _ _ _ _ _ _ _ _ _ _ _ _ _ _ _ _ _ _ _ _ _ _ _ _ _ _ _ _ _ _ _ _ _ _ _ _ _ _ _ _ _ _ _ _ _ _ _ _ _ _ _ _ _ _ _ _ _ _ _ _ _ _ _ _ _ _ _ _ _ _ _ _ _ _ _ _ _ _ _ _ _ _ _ _ _ _ _ _ _ _ _ _ _ _ _ _ _ _ _ _ _ _ _ _ _ _ _ _ _ _ _ _ _ _ _ _ _ _ _ _ _ _ _ _ _ _ _ _ _ _ _ _ _ _ _ _ _ _ _ _ _ _ _ _ _ _ _ _ _ _ _ _ _ _ _ _ _ _ _ _ _ _ _ _ _ _ _ _ _ _ _ _ _ _ _ _ _ _ _ _ _ _ _ _ _ _ _ _ _ _ _ _ _ _ _ _ _ _ _ _ _ _ _ _ _ _ _ _ _ _ _ _ _ _ _ _ _ _ s' wc h1 h2 h3 d1 d2)
end Go.Proofs.Ybulkxiu
