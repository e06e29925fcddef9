import Derived.Test.YbulkxiuRt
import Derived.Test.YbulkxiuAdd
import Derived.Deep.RegionLaw
import Derived.Deep.RegionHeld3
import Derived.Deep.CutRange
import Derived.Deep.CutBlock
namespace Go.Proofs.Ybulkxiu
open Go.RowKit
set_option maxRecDepth 1000000

def isTmp (n : Nat) : Operand → Bool
  | .tmp m => m == n
  | _ => false
def aftCond (n : Nat) : Code → Option (Option Code)
  | .seq a b => match aftCond n a with
    | some none => some (some b)
    | some (some c) => some (some c)
    | none => aftCond n b
  | .loop c => aftCond n c
  | .block _ c => aftCond n c
  | .scope c => aftCond n c
  | .cond o a b => if isTmp n o then some none else match aftCond n a with
    | some c => some c
    | none => aftCond n b
  | _ => none
def aftBlk (n : Nat) : Code → Option (Option Code)
  | .seq a b => match aftBlk n a with
    | some none => some (some b)
    | some (some c) => some (some c)
    | none => aftBlk n b
  | .loop c => aftBlk n c
  | .block m c => if m == n then some none else aftBlk n c
  | .scope c => aftBlk n c
  | .cond _ a b => match aftBlk n a with
    | some c => some c
    | none => aftBlk n b
  | _ => none

set_option maxHeartbeats 8000000 in
theorem partB (i : Nat) (code : Code) (hcode : (Yba.f5.body.bind (aftBlk 2)).join = some code) (w : World) (sb so len cap : Nat) (D : Nat → StepD) (D0 : Aside (w.cell? ⟨sb, so + i * 4, none⟩ = some (.int .u8 ((D i).kind : Nat)))) (D1 : Aside (w.cell? ⟨sb, so + i * 4 + 1, none⟩ = some (.int .u8 ((D i).typ : Nat)))) (D2 : Aside (w.cell? ⟨sb, so + i * 4 + 2, none⟩ = some (.int .u8 ((D i).key : Nat)))) (F : Fx) (hFB : F.B0 = w.heap.size) (s : GS) (wc : World) (tgx : Nat → Nat)
    (c1 c2 c3 c25 c29 c34 c35 c36 c37 c38 c39 c40 c41 c42 c43 c44 c45 c46 c47 c48 c49 c350 c351 b16 b17 b18 b19 b20 b21 b22 b23 b24 b26 b27 b28 b30 b31 b32 b33 b52 b53 b54 b55 b56 b57 b58 b59 b60 b61 b62 b63 b64 b65 b66 b67 b68 b69 b70 b71 b72 b73 b74 b75 b76 b77 b78 b79 b80 b81 b82 b83 b84 b85 b86 b87 b88 b89 b90 b91 b92 b93 b94 b95 b96 b97 b98 b99 b100 b101 b102 b103 b104 b105 b106 b107 b108 b109 b110 b111 b112 b113 b114 b115 b116 b117 b118 b119 b120 b121 b122 b123 b124 b125 b126 b127 b128 b129 b130 b131 b132 b133 b134 b135 b136 b137 b138 b139 b140 b141 b142 b143 b144 b145 b146 b147 b148 b149 b150 b151 b152 b153 b154 b155 b156 b157 b158 b159 b160 b161 b162 b163 b164 b165 b166 b167 b168 b169 b170 b171 b172 b173 b174 b175 b176 b177 b178 b179 b180 b181 b182 b183 b184 b185 b186 b187 b188 b189 b190 b191 b192 b193 b194 b195 b196 b197 b198 b199 b200 b201 b202 b203 b204 b205 b206 b207 b208 b209 b210 b211 b212 b213 b214 b215 b216 b217 b218 b219 b220 b221 b222 b223 b224 b225 b226 b227 b228 b229 b230 b231 b232 b233 b234 b235 b236 b237 b238 b239 b240 b241 b242 b243 b244 b245 b246 b247 b248 b249 b250 b251 b252 b253 b254 b255 b256 b257 b258 b259 b260 b261 b262 b263 b264 b265 b266 b267 b268 b269 b270 b271 b272 b273 b274 b275 b276 b277 b278 b279 b280 b281 b282 b283 b284 b285 b286 b287 b288 b289 b290 b291 b292 b293 b294 b295 b296 b297 b298 b299 b300 b301 b302 b303 b304 b305 b306 b307 b308 b309 b310 b311 b312 b313 b314 b315 b316 b317 b318 b319 b320 b321 b322 b323 b324 b325 b326 b327 b328 b329 b330 b331 b332 b333 b334 b335 b336 b337 b338 b339 b340 b341 b342 b343 b344 b345 b346 b347 b348 b349 : Value) (L : Aside (LS F w s i (csOf i (D i)) tgx b16 b17 wc)) (KB KK K1 : Act → World → Prop) (post : Ending → World → Prop) (codeC : Code) (hcodeC : (Yba.f5.body.bind (aftCond 110)).join = some codeC)
    (hC : ∀ (y52 y53 y54 y55 y56 y57 y58 y59 y60 y61 y62 y63 y64 y65 y66 y67 y68 y69 y70 y71 y72 y73 y74 y75 y76 y77 y78 y79 y80 y81 y82 y83 y84 y85 y86 y87 y88 y89 y90 y91 y92 y93 y94 y95 y96 y97 y98 y99 y100 y101 y102 y103 y104 y105 y106 y107 y108 y109 y110 y111 y112 y113 y114 y115 y116 y117 y118 y119 y120 y121 y122 y123 y124 y125 y126 y127 y128 y129 y130 y131 y132 y133 y134 y135 y136 y137 y138 y139 y140 y141 y142 y143 y144 y145 y146 y147 y148 y149 y150 y151 y152 y153 y154 y155 y156 y157 y158 y159 y160 y161 y162 y163 y164 y165 y166 y167 y168 y169 y170 y171 y172 y173 y174 y175 y176 y177 y178 y179 y180 y181 y182 y183 y184 y185 y186 y187 y188 y189 y190 y191 y192 y193 y194 y195 y196 y197 y198 y199 y200 y201 y202 y203 y204 y205 y206 y207 y208 y209 y210 y211 y212 y213 y214 y215 y216 y217 y218 y219 y220 y221 y222 y223 y224 y225 y226 y227 y228 y229 y230 y231 y232 y233 y234 y235 y236 y237 y238 y239 y240 y241 y242 y243 y244 y245 y246 y247 y248 y249 y250 y251 y252 y253 y254 y255 y256 y257 y258 y259 y260 y261 y262 y263 y264 y265 y266 y267 y268 y269 y270 y271 y272 y273 y274 y275 y276 y277 y278 y279 y280 y281 y282 y283 y284 y285 y286 y287 y288 y289 y290 y291 y292 y293 y294 y295 y296 y297 y298 y299 y300 y301 y302 y303 y304 y305 y306 y307 y308 y309 y310 y311 y312 y313 y314 y315 y316 y317 y318 y319 y320 y321 y322 y323 y324 y325 y326 y327 y328 y329 y330 y331 y332 y333 y334 y335 y336 y337 y338 y339 y340 y341 y342 y343 y344 y345 y346 y347 y348 y349 : Value) (tgx : Nat → Nat) (evo : Option Nat) (wx : World), (evo = none ↔ (D i).kind % 4 = 2) → Aside (ES F w s i (csOf i (D i)) evo (decide ((D i).kind % 4 ≤ 1)) (decide ((D i).typ % 2 = 1)) (decide ((D i).key % 2 = 1)) tgx b16 wx) → Code.wp Yba.prog codeC (Exit.inBlock 1 (Exit.then KB (Exit.then KK (Exit.inBlock 0 (Exit.then K1 (bodyPost Yba.prog Yba.f5 post)))))) ⟨#[.slice (some ⟨sb, so, none⟩) len cap, c1, c2, c3, .pointer (some ⟨F.tyB, 0, none⟩), .pointer (some ⟨F.kyB, 0, none⟩), .pointer (some ⟨F.gB, 0, none⟩), .pointer (some ⟨F.xB, 0, none⟩), .pointer (some ⟨F.mB, 0, none⟩), s.recsV, s.idbV, .slice (some ⟨F.sE, 0, none⟩) len len, .slice (some ⟨F.nO, 0, none⟩) len len, .int .i64 (i : Int), .pointer (some ⟨sb, so + i * 4, none⟩), .string (idS i), b16, b17, b18, b19, b20, .int .u8 (((D i).kind : Int) % 4), evV evo, b23, b24, c25, b26, b27, b28, c29, b30, b31, b32, b33, c34, c35, c36, c37, c38, c39, c40, c41, c42, c43, c44, c45, c46, c47, c48, c49, .int .i64 (len : Int), .int .i64 (i : Int), y52, y53, y54, y55, y56, y57, y58, y59, y60, y61, y62, y63, y64, y65, y66, y67, y68, y69, y70, y71, y72, y73, y74, y75, y76, y77, y78, y79, y80, y81, y82, y83, y84, y85, y86, y87, y88, y89, y90, y91, y92, y93, y94, y95, y96, y97, y98, y99, y100, y101, y102, y103, y104, y105, y106, y107, y108, y109, y110, y111, y112, y113, y114, y115, y116, y117, y118, y119, y120, y121, y122, y123, y124, y125, y126, y127, y128, y129, y130, y131, y132, y133, y134, y135, y136, y137, y138, y139, y140, y141, y142, y143, y144, y145, y146, y147, y148, y149, y150, y151, y152, y153, y154, y155, y156, y157, y158, y159, y160, y161, y162, y163, y164, y165, y166, y167, y168, y169, y170, y171, y172, y173, y174, y175, y176, y177, y178, y179, y180, y181, y182, y183, y184, y185, y186, y187, y188, y189, y190, y191, y192, y193, y194, y195, y196, y197, y198, y199, y200, y201, y202, y203, y204, y205, y206, y207, y208, y209, y210, y211, y212, y213, y214, y215, y216, y217, y218, y219, y220, y221, y222, y223, y224, y225, y226, y227, y228, y229, y230, y231, y232, y233, y234, y235, y236, y237, y238, y239, y240, y241, y242, y243, y244, y245, y246, y247, y248, y249, y250, y251, y252, y253, y254, y255, y256, y257, y258, y259, y260, y261, y262, y263, y264, y265, y266, y267, y268, y269, y270, y271, y272, y273, y274, y275, y276, y277, y278, y279, y280, y281, y282, y283, y284, y285, y286, y287, y288, y289, y290, y291, y292, y293, y294, y295, y296, y297, y298, y299, y300, y301, y302, y303, y304, y305, y306, y307, y308, y309, y310, y311, y312, y313, y314, y315, y316, y317, y318, y319, y320, y321, y322, y323, y324, y325, y326, y327, y328, y329, y330, y331, y332, y333, y334, y335, y336, y337, y338, y339, y340, y341, y342, y343, y344, y345, y346, y347, y348, y349, c350, c351], []⟩ wx) :
    let Q' : Exit → Act → World → Prop := bodyPost Yba.prog Yba.f5 post
    Code.wp Yba.prog code (Exit.inBlock 1 (Exit.then KB (Exit.then KK (Exit.inBlock 0 (Exit.then K1 Q'))))) ⟨#[.slice (some ⟨sb, so, none⟩) len cap, c1, c2, c3, .pointer (some ⟨F.tyB, 0, none⟩), .pointer (some ⟨F.kyB, 0, none⟩), .pointer (some ⟨F.gB, 0, none⟩), .pointer (some ⟨F.xB, 0, none⟩), .pointer (some ⟨F.mB, 0, none⟩), s.recsV, s.idbV, .slice (some ⟨F.sE, 0, none⟩) len len, .slice (some ⟨F.nO, 0, none⟩) len len, .int .i64 (i : Int), .pointer (some ⟨sb, so + i * 4, none⟩), .string (idS i), b16, b17, b18, b19, b20, b21, b22, b23, b24, c25, b26, b27, b28, c29, b30, b31, b32, b33, c34, c35, c36, c37, c38, c39, c40, c41, c42, c43, c44, c45, c46, c47, c48, c49, .int .i64 (len : Int), .int .i64 (i : Int), b52, b53, b54, b55, b56, b57, b58, b59, b60, b61, b62, b63, b64, b65, b66, b67, b68, b69, b70, b71, b72, b73, b74, b75, b76, b77, b78, b79, b80, b81, b82, b83, b84, b85, b86, b87, b88, b89, b90, b91, b92, b93, b94, b95, b96, b97, b98, b99, b100, b101, b102, b103, b104, b105, b106, b107, b108, b109, b110, b111, b112, b113, b114, b115, b116, b117, b118, b119, b120, b121, b122, b123, b124, b125, b126, b127, b128, b129, b130, b131, b132, b133, b134, b135, b136, b137, b138, b139, b140, b141, b142, b143, b144, b145, b146, b147, b148, b149, b150, b151, b152, b153, b154, b155, b156, b157, b158, b159, b160, b161, b162, b163, b164, b165, b166, b167, b168, b169, b170, b171, b172, b173, b174, b175, b176, b177, b178, b179, b180, b181, b182, b183, b184, b185, b186, b187, b188, b189, b190, b191, b192, b193, b194, b195, b196, b197, b198, b199, b200, b201, b202, b203, b204, b205, b206, b207, b208, b209, b210, b211, b212, b213, b214, b215, b216, b217, b218, b219, b220, b221, b222, b223, b224, b225, b226, b227, b228, b229, b230, b231, b232, b233, b234, b235, b236, b237, b238, b239, b240, b241, b242, b243, b244, b245, b246, b247, b248, b249, b250, b251, b252, b253, b254, b255, b256, b257, b258, b259, b260, b261, b262, b263, b264, b265, b266, b267, b268, b269, b270, b271, b272, b273, b274, b275, b276, b277, b278, b279, b280, b281, b282, b283, b284, b285, b286, b287, b288, b289, b290, b291, b292, b293, b294, b295, b296, b297, b298, b299, b300, b301, b302, b303, b304, b305, b306, b307, b308, b309, b310, b311, b312, b313, b314, b315, b316, b317, b318, b319, b320, b321, b322, b323, b324, b325, b326, b327, b328, b329, b330, b331, b332, b333, b334, b335, b336, b337, b338, b339, b340, b341, b342, b343, b344, b345, b346, b347, b348, b349, c350, c351], []⟩ wc := by
  intro Q'
  conv at hcode => lhs; whnf
  injection hcode with hcode
  subst hcode
  conv at hcodeC => lhs; whnf
  injection hcodeC with hcodeC
  subst hcodeC
  have HC := toAside hC
  clear hC
  obtain ⟨ad17, c17, hv17, _⟩ := L.out.r17.form
  subst hv17
  have kd : wc.cell? ⟨sb, so + i * 4, none⟩ = some (.int .u8 ((D i).kind : Nat)) := L.out.b.step D0.out hFB
  have kt : wc.cell? ⟨sb, so + i * 4 + 1, none⟩ = some (.int .u8 ((D i).typ : Nat)) := L.out.b.step D1.out hFB
  have kk : wc.cell? ⟨sb, so + i * 4 + 2, none⟩ = some (.int .u8 ((D i).key : Nat)) := L.out.b.step D2.out hFB
  go_upto_if 110 with fail
  go_cut [22] from 52 to 349 (fun v22 wx => ∃ (tgx : Nat → Nat) (evo : Option Nat), v22 = evV evo ∧ (evo = none ↔ (D i).kind % 4 = 2) ∧ Aside (ES F w s i (csOf i (D i)) evo (decide ((D i).kind % 4 ≤ 1)) (decide ((D i).typ % 2 = 1)) (decide ((D i).key % 2 = 1)) tgx b16 wx))
  case first =>
    by_cases hk2 : (D i).kind % 4 = 2
    · have hk2' : (((D i).kind : Int) % 4 != 2) = false := by simp; omega
      go_wp2
      go_meet
      exact ⟨tgx, none, rfl, ⟨fun _ => hk2, fun _ => rfl⟩, L.out.noEvent _ _ _⟩
    · have hk2' : (((D i).kind : Int) % 4 != 2) = true := by simp; omega
      obtain ⟨tb, htb⟩ : ∃ tb, tb = decide ((D i).typ % 2 = 1) := ⟨_, rfl⟩
      obtain ⟨kb, hkb⟩ : ∃ kb, kb = decide ((D i).key % 2 = 1) := ⟨_, rfl⟩
      have ix1 := fun W => idx62 (D i).typ F.tyB W
      have ix2 := fun W => idx62 (D i).key F.kyB W
      have ct : wc.cell? ⟨F.tyB, (D i).typ % 2, none⟩ = some (.string (tyS tb)) := by
        rcases (show (D i).typ % 2 = 0 ∨ (D i).typ % 2 = 1 by omega) with h | h
        · rw [htb, decide_eq_false (by omega), h]; exact L.out.b.l.t0
        · rw [htb, decide_eq_true h, h]; exact L.out.b.l.t1
      have ck : wc.cell? ⟨F.kyB, (D i).key % 2, none⟩ = some (.string (kyS kb)) := by
        rcases (show (D i).key % 2 = 0 ∨ (D i).key % 2 = 1 by omega) with h | h
        · rw [hkb, decide_eq_false (by omega), h]; exact L.out.b.l.k0
        · rw [hkb, decide_eq_true h, h]; exact L.out.b.l.k1
      have HTB : Hid (tb = decide ((D i).typ % 2 = 1)) := htb
      have HKB : Hid (kb = decide ((D i).key % 2 = 1)) := hkb
      clear htb hkb
      go_wp2_with fail
      go_region_held3 (fun w' => w'.cell? ⟨sb, so + i * 4 + 1, none⟩ = some (.int .u8 ((D i).typ : Nat)) ∧ w'.cell? ⟨sb, so + i * 4 + 2, none⟩ = some (.int .u8 ((D i).key : Nat)) ∧ w'.cell? ⟨F.tyB, (D i).typ % 2, none⟩ = some (.string (tyS tb)) ∧ w'.cell? ⟨F.kyB, (D i).key % 2, none⟩ = some (.string (kyS kb)))
        (first | exact ⟨kt, kk, ct, ck⟩ | exact ⟨keepCell kt, keepCell kk, keepCell ct, keepCell ck⟩)
        (fail)
      go_wp2
      go_meet
      rw [← HTB.out, ← HKB.out]
      obtain ⟨tg', E⟩ := L.out.event (d := D i) (m := min (D i).cl 16) (by omega) (decide ((D i).kind % 4 ≤ 1)) tb kb _ rfl rfl rfl rfl (wc.alloc (.cells #[.string (idS i), .string (tyS tb), .string ⟨#[]⟩, .string ⟨#[]⟩, .string (kyS kb), .bool true, .bool false, .int .u32 0, .slice none 0 0, .slice ad17 (csOf i (D i)).length c17, .slice none 0 0, .int .i64 0, .slice none 0 0] 56)).drew rfl rfl rfl rfl
      exact ⟨tg', some wc.heap.size, rfl, ⟨fun h => (by cases h), fun h => absurd h hk2⟩, E⟩

  case rest =>
    obtain ⟨tgx, evo, rfl, he, E⟩ := hcut
    rename_i hK
    refine hK _ _ (HC.out _ _ _ _ _ _ _ _ _ _ _ _ _ _ _ _ _ _ _ _ _ _ _ _ _ _ _ _ _ _ _ _ _ _ _ _ _ _ _ _ _ _ _ _ _ _ _ _ _ _ _ _ _ _ _ _ _ _ _ _ _ _ _ _ _ _ _ _ _ _ _ _ _ _ _ _ _ _ _ _ _ _ _ _ _ _ _ _ _ _ _ _ _ _ _ _ _ _ _ _ _ _ _ _ _ _ _ _ _ _ _ _ _ _ _ _ _ _ _ _ _ _ _ _ _ _ _ _ _ _ _ _ _ _ _ _ _ _ _ _ _ _ _ _ _ _ _ _ _ _ _ _ _ _ _ _ _ _ _ _ _ _ _ _ _ _ _ _ _ _ _ _ _ _ _ _ _ _ _ _ _ _ _ _ _ _ _ _ _ _ _ _ _ _ _ _ _ _ _ _ _ _ _ _ _ _ _ _ _ _ _ _ _ _ _ _ _ _ _ _ _ _ _ _ _ _ _ _ _ _ _ _ _ _ _ _ _ _ _ _ _ _ _ _ _ _ _ _ _ _ _ _ _ _ _ _ _ _ _ _ _ _ _ _ _ _ _ _ _ _ _ _ _ _ _ _ _ _ _ _ _ _ _ _ _ _ _ _ _ _ _ _ _ _ _ _ _ _  tgx evo wc he E)
end Go.Proofs.Ybulkxiu
