import Derived.Test.YbulkxiuPartJ
namespace Go.Proofs.Ybulkxiu
open Go.RowKit Go.Lib
set_option maxRecDepth 1000000
def inCond (n : Nat) : Code → Option Code
  | .seq a b => match inCond n a with
    | some c => some c
    | none => inCond n b
  | .loop c => inCond n c
  | .block _ c => inCond n c
  | .scope c => inCond n c
  | .cond o a b => if isTmp n o then some a else match inCond n a with
    | some c => some c
    | none => inCond n b
  | _ => none
theorem MI.lenAt {B0 : Nat} {w : World} {tg : Nat → Nat} {mB : Nat} {V : MVs} {G : PG} {cvm : Nat → Value} {cbm : Nat → List Nat} {ovm : Nat → Value} {own : Nat → List Nat} (h : MI B0 w tg mB V G cvm cbm ovm own) : ∃ ea ec, w.cell? ⟨mB, 0, none⟩ = some (.slice ea G.n ec) := by
  obtain ⟨a, a1, a2, a3, _⟩ := h.blk
  obtain ⟨ad, c, h1, _⟩ := h.evs.form
  exact ⟨ad, c, by rw [cell_of_row w mB 0 a 44 (0, 0) a1, a3, h1]⟩
set_option maxHeartbeats 16000000 in
theorem partN1 (i : Nat) (code : Code) (hcode : Yba.f5.body.bind (inCond 130) = some code) (codeL : Code) (hcodeL : (Yba.f5.body.bind (aftBlk 4)).join = some codeL) (codeM : Code) (hcodeM : (Yba.f5.body.bind (aftBlk 6)).join = some codeM) (codeN : Code) (hcodeN : (Yba.f5.body.bind (aftCond 235)).join = some codeN) (codeI : Code) (hcodeI : (Yba.f5.body.bind (aftReg 39)).join = some codeI) (codeJ : Code) (hcodeJ : Yba.f5.body.bind (atReg 39) = some codeJ) (w : World) (sb so len cap : Nat) (F : Fx) (hFl : F.len = len) (hlt : i < len) (s : GS) (wc : World) (tgx : Nat → Nat) (e : Nat) (cs : List (Option Nat)) (ty ky : Bool)
    (c1 c2 c3 c25 c29 c34 c35 c36 c37 c38 c39 c40 c41 c42 c43 c44 c45 c46 c47 c48 c49 c350 c351 b16 b17 b18 b19 b20 b21 b23 b24 b26 b27 b28 b30 b31 b32 b33 b52 b53 b54 b55 b56 b57 b58 b59 b60 b61 b62 b63 b64 b65 b66 b67 b68 b69 b70 b71 b72 b73 b74 b75 b76 b77 b78 b79 b80 b81 b82 b83 b84 b85 b86 b87 b88 b89 b90 b91 b92 b93 b94 b95 b96 b97 b98 b99 b100 b101 b102 b103 b104 b105 b106 b107 b108 b109 b110 b111 b112 b113 b114 b115 b116 b117 b118 b119 b120 b121 b122 b123 b124 b125 b126 b127 b128 b129 b130 b131 b132 b133 b134 b135 b136 b137 b138 b139 b140 b141 b142 b143 b144 b145 b146 b147 b148 b149 b150 b151 b152 b153 b154 b155 b156 b157 b158 b159 b160 b161 b162 b163 b164 b165 b166 b167 b168 b169 b170 b171 b172 b173 b174 b175 b176 b177 b178 b179 b180 b181 b182 b183 b184 b185 b186 b187 b188 b189 b190 b191 b192 b193 b194 b195 b196 b197 b198 b199 b200 b201 b202 b203 b204 b205 b206 b207 b208 b209 b210 b211 b212 b213 b214 b215 b216 b217 b218 b219 b220 b221 b222 b223 b224 b225 b226 b227 b228 b229 b230 b231 b232 b233 b234 b235 b236 b237 b238 b239 b240 b241 b242 b243 b244 b245 b246 b247 b248 b249 b250 b251 b252 b253 b254 b255 b256 b257 b258 b259 b260 b261 b262 b263 b264 b265 b266 b267 b268 b269 b270 b271 b272 b273 b274 b275 b276 b277 b278 b279 b280 b281 b282 b283 b284 b285 b286 b287 b288 b289 b290 b291 b292 b293 b294 b295 b296 b297 b298 b299 b300 b301 b302 b303 b304 b305 b306 b307 b308 b309 b310 b311 b312 b313 b314 b315 b316 b317 b318 b319 b320 b321 b322 b323 b324 b325 b326 b327 b328 b329 b330 b331 b332 b333 b334 b335 b336 b337 b338 b339 b340 b341 b342 b343 b344 b345 b346 b347 b348 b349 : Value) (N : Aside (NR F w s i cs e ty ky tgx b16 wc)) (M : Aside (MI F.B0 wc tgx F.mB s.V s.G s.cvm (s.cb) s.ovm s.own)) (Q : Aside (NQ F s i)) (KC KB KK K1 : Act → World → Prop) (post : Ending → World → Prop)
    (hK : ∀ (y23 y24 y26 y27 y28 y30 y31 y52 y53 y54 y55 y56 y57 y58 y59 y60 y61 y62 y63 y64 y65 y66 y67 y68 y69 y70 y71 y72 y73 y74 y75 y76 y77 y78 y79 y80 y81 y82 y83 y84 y85 y86 y87 y88 y89 y90 y91 y92 y93 y94 y95 y96 y97 y98 y99 y100 y101 y102 y103 y104 y105 y106 y107 y108 y109 y110 y111 y112 y113 y114 y115 y116 y117 y118 y119 y120 y121 y122 y123 y124 y125 y126 y127 y128 y129 y130 y131 y132 y133 y134 y135 y136 y137 y138 y139 y140 y141 y142 y143 y144 y145 y146 y147 y148 y149 y150 y151 y152 y153 y154 y155 y156 y157 y158 y159 y160 y161 y162 y163 y164 y165 y166 y167 y168 y169 y170 y171 y172 y173 y174 y175 y176 y177 y178 y179 y180 y181 y182 y183 y184 y185 y186 y187 y188 y189 y190 y191 y192 y193 y194 y195 y196 y197 y198 y199 y200 y201 y202 y203 y204 y205 y206 y207 y208 y209 y210 y211 y212 y213 y214 y215 y216 y217 y218 y219 y220 y221 y222 y223 y224 y225 y226 y227 y228 y229 y230 y231 y232 y233 y234 y235 y236 y237 y238 y239 y240 y241 y242 y243 y244 y245 y246 y247 y248 y249 y250 y251 y252 y253 y254 y255 y256 y257 y258 y259 y260 y261 y262 y263 y264 y265 y266 y267 y268 y269 y270 y271 y272 y273 y274 y275 y276 y277 y278 y279 y280 y281 y282 y283 y284 y285 y286 y287 y288 y289 y290 y291 y292 y293 y294 y295 y296 y297 y298 y299 y300 y301 y302 y303 y304 y305 y306 y307 y308 y309 y310 y311 y312 y313 y314 y315 y316 y317 y318 y319 y320 y321 y322 y323 y324 y325 y326 y327 y328 y329 y330 y331 y332 y333 y334 y335 y336 y337 y338 y339 y340 y341 y342 y343 y344 y345 y346 y347 y348 y349 : Value) (s' : GS) (wx : World), s'.recsV = s.recsV → s'.idbV = s.idbV → s'.evp i = some e → Aside (DR F w s' (i + 1) wx) → Aside (XI F.B0 wx s'.tg F.xB F.mb s'.nmx i s'.recsV s'.idbV s'.evp) → KC ⟨#[.slice (some ⟨sb, so, none⟩) len cap, c1, c2, c3, .pointer (some ⟨F.tyB, 0, none⟩), .pointer (some ⟨F.kyB, 0, none⟩), .pointer (some ⟨F.gB, 0, none⟩), .pointer (some ⟨F.xB, 0, none⟩), .pointer (some ⟨F.mB, 0, none⟩), s.recsV, s.idbV, .slice (some ⟨F.sE, 0, none⟩) len len, .slice (some ⟨F.nO, 0, none⟩) len len, .int .i64 (i : Int), .pointer (some ⟨sb, so + i * 4, none⟩), .string (idS i), b16, b17, b18, b19, b20, b21, .pointer (some ⟨e, 0, none⟩), y23, y24, c25, y26, y27, y28, c29, y30, y31, b32, b33, c34, c35, c36, c37, c38, c39, c40, c41, c42, c43, c44, c45, c46, c47, c48, c49, .int .i64 (len : Int), .int .i64 (i : Int), y52, y53, y54, y55, y56, y57, y58, y59, y60, y61, y62, y63, y64, y65, y66, y67, y68, y69, y70, y71, y72, y73, y74, y75, y76, y77, y78, y79, y80, y81, y82, y83, y84, y85, y86, y87, y88, y89, y90, y91, y92, y93, y94, y95, y96, y97, y98, y99, y100, y101, y102, y103, y104, y105, y106, y107, y108, y109, y110, y111, y112, y113, y114, y115, y116, y117, y118, y119, y120, y121, y122, y123, y124, y125, y126, y127, y128, y129, y130, y131, y132, y133, y134, y135, y136, y137, y138, y139, y140, y141, y142, y143, y144, y145, y146, y147, y148, y149, y150, y151, y152, y153, y154, y155, y156, y157, y158, y159, y160, y161, y162, y163, y164, y165, y166, y167, y168, y169, y170, y171, y172, y173, y174, y175, y176, y177, y178, y179, y180, y181, y182, y183, y184, y185, y186, y187, y188, y189, y190, y191, y192, y193, y194, y195, y196, y197, y198, y199, y200, y201, y202, y203, y204, y205, y206, y207, y208, y209, y210, y211, y212, y213, y214, y215, y216, y217, y218, y219, y220, y221, y222, y223, y224, y225, y226, y227, y228, y229, y230, y231, y232, y233, y234, y235, y236, y237, y238, y239, y240, y241, y242, y243, y244, y245, y246, y247, y248, y249, y250, y251, y252, y253, y254, y255, y256, y257, y258, y259, y260, y261, y262, y263, y264, y265, y266, y267, y268, y269, y270, y271, y272, y273, y274, y275, y276, y277, y278, y279, y280, y281, y282, y283, y284, y285, y286, y287, y288, y289, y290, y291, y292, y293, y294, y295, y296, y297, y298, y299, y300, y301, y302, y303, y304, y305, y306, y307, y308, y309, y310, y311, y312, y313, y314, y315, y316, y317, y318, y319, y320, y321, y322, y323, y324, y325, y326, y327, y328, y329, y330, y331, y332, y333, y334, y335, y336, y337, y338, y339, y340, y341, y342, y343, y344, y345, y346, y347, y348, y349, c350, c351], []⟩ wx) :
    let Q' : Exit → Act → World → Prop := bodyPost Yba.prog Yba.f5 post
    Code.wp Yba.prog code (Exit.then KC (Exit.inBlock 1 (Exit.then KB (Exit.then KK (Exit.inBlock 0 (Exit.then K1 Q')))))) ⟨#[.slice (some ⟨sb, so, none⟩) len cap, c1, c2, c3, .pointer (some ⟨F.tyB, 0, none⟩), .pointer (some ⟨F.kyB, 0, none⟩), .pointer (some ⟨F.gB, 0, none⟩), .pointer (some ⟨F.xB, 0, none⟩), .pointer (some ⟨F.mB, 0, none⟩), s.recsV, s.idbV, .slice (some ⟨F.sE, 0, none⟩) len len, .slice (some ⟨F.nO, 0, none⟩) len len, .int .i64 (i : Int), .pointer (some ⟨sb, so + i * 4, none⟩), .string (idS i), b16, b17, b18, b19, b20, b21, .pointer (some ⟨e, 0, none⟩), b23, b24, c25, b26, b27, b28, c29, b30, b31, b32, b33, c34, c35, c36, c37, c38, c39, c40, c41, c42, c43, c44, c45, c46, c47, c48, c49, .int .i64 (len : Int), .int .i64 (i : Int), b52, b53, b54, b55, b56, b57, b58, b59, b60, b61, b62, b63, b64, b65, b66, b67, b68, b69, b70, b71, b72, b73, b74, b75, b76, b77, b78, b79, b80, b81, b82, b83, b84, b85, b86, b87, b88, b89, b90, b91, b92, b93, b94, b95, b96, b97, b98, b99, b100, b101, b102, b103, b104, b105, b106, b107, b108, b109, b110, b111, b112, b113, b114, b115, b116, b117, b118, b119, b120, b121, b122, b123, b124, b125, b126, b127, b128, b129, b130, b131, b132, b133, b134, b135, b136, b137, b138, b139, b140, b141, b142, b143, b144, b145, b146, b147, b148, b149, b150, b151, b152, b153, b154, b155, b156, b157, b158, b159, b160, b161, b162, b163, b164, b165, b166, b167, b168, b169, b170, b171, b172, b173, b174, b175, b176, b177, b178, b179, b180, b181, b182, b183, b184, b185, b186, b187, b188, b189, b190, b191, b192, b193, b194, b195, b196, b197, b198, b199, b200, b201, b202, b203, b204, b205, b206, b207, b208, b209, b210, b211, b212, b213, b214, b215, b216, b217, b218, b219, b220, b221, b222, b223, b224, b225, b226, b227, b228, b229, b230, b231, b232, b233, b234, b235, b236, b237, b238, b239, b240, b241, b242, b243, b244, b245, b246, b247, b248, b249, b250, b251, b252, b253, b254, b255, b256, b257, b258, b259, b260, b261, b262, b263, b264, b265, b266, b267, b268, b269, b270, b271, b272, b273, b274, b275, b276, b277, b278, b279, b280, b281, b282, b283, b284, b285, b286, b287, b288, b289, b290, b291, b292, b293, b294, b295, b296, b297, b298, b299, b300, b301, b302, b303, b304, b305, b306, b307, b308, b309, b310, b311, b312, b313, b314, b315, b316, b317, b318, b319, b320, b321, b322, b323, b324, b325, b326, b327, b328, b329, b330, b331, b332, b333, b334, b335, b336, b337, b338, b339, b340, b341, b342, b343, b344, b345, b346, b347, b348, b349, c350, c351], []⟩ wc := by
  intro Q'
  conv at hcode => lhs; whnf
  injection hcode with hcode
  subst hcode
  have HCL := toAside hcodeL
  have HCM := toAside hcodeM
  have HCN := toAside hcodeN
  have HCI := toAside hcodeI
  have HCJ := toAside hcodeJ
  conv at hcodeJ => lhs; whnf
  injection hcodeJ with hcodeJ
  subst hcodeJ
  conv at hcodeI => lhs; whnf
  injection hcodeI with hcodeI
  subst hcodeI
  conv at hcodeL => lhs; whnf
  injection hcodeL with hcodeL
  subst hcodeL
  clear hcodeM hcodeN
  have HK := toAside hK
  clear hK
  obtain ⟨ra, rc, hb16, hrc, hq16⟩ := N.out.r16.form
  clear hq16
  subst hb16
  have h7 : Aside (∀ t j, cs.getD t none = some j → j < i) := by obtain ⟨_, _, _, _, _, _, _, _, _, h, _⟩ := N.out.ev; exact toAside h
  have h6 : cs.length ≤ 16 := by obtain ⟨_, _, _, _, _, _, _, _, h, _, _⟩ := N.out.ev; exact h
  have hsm : s.G.n ≤ 512 := N.out.g.wf.small
  obtain ⟨ea, ec, m0⟩ := M.out.lenAt
  have hwn : IntKind.u32.wrap ((s.G.n : Int) + 1) = (s.G.n : Int) + 1 := by rw [IntKind.wrap_u32]; omega
  go_upto_block 4 with fail
  clear m0
  go_cut [24, 26, 27] from 52 to 349 (fun v24 v26 v27 wx => ∃ (tgy : Nat → Nat) (cvy : Nat → Value), v24 = .int .u32 ((parL s.G ty ky (ndL s cs) : Nat) : Int) ∧ Aside (NR F w s i cs e ty ky tgy (.slice ra cs.length rc) wx) ∧ Aside (MI F.B0 wx tgy F.mB s.V s.G cvy (cbL (s.G.n + 1) s.cb (ndL s cs)) s.ovm s.own))
  case first =>
    clear HK
    go_wp2_with fail
    go_loopg [24, 140] cs.length (fun kx s24 s140 wx => ∃ (t : Nat) (tgy : Nat → Nat) (cvy : Nat → Value), s24 = .int .u32 ((parL s.G ty ky ((ndL s cs).take t) : Nat) : Int) ∧ s140 = .int .i64 t ∧ t ≤ cs.length ∧ cs.length - t ≤ kx ∧ Aside (NR F w s i cs e ty ky tgy (.slice ra cs.length rc) wx) ∧ Aside (MI F.B0 wx tgy F.mB s.V s.G cvy (cbL (s.G.n + 1) s.cb ((ndL s cs).take t)) s.ovm s.own))
    case atStart => exact ⟨0, tgx, s.cvm, rfl, rfl, Nat.zero_le _, by omega, N, M⟩
    case round =>
      clear N M
      obtain ⟨t, tgy, cvy, rfl, rfl, htn, hkx, N, M⟩ := hrel
      by_cases hlt2 : t < cs.length
      · have t0 : (0 : Int) ≤ (t : Int) := by omega
        have t1 : (t : Int) < (cs.length : Int) := by omega
        obtain ⟨rb, rc', hr1, _, x1⟩ := N.out.cell hlt2
        obtain ⟨rfl, rfl⟩ : ra = some ⟨rb, 0, none⟩ ∧ rc = rc' := by simpa using hr1
        clear hr1
        have HSN := toAside (ndL_take s cs t hlt2)
        have HLT := toAside (h7.out t)
        obtain ⟨o, ho⟩ : ∃ o, o = cs.getD t none := ⟨_, rfl⟩
        rw [← ho] at x1 HSN HLT
        clear ho
        cases o with
        | none =>
          have x2 : wr.cell? ⟨rb, t, none⟩ = some (.int .i64 (-1)) := x1
          clear x1
          go_wp2
          go_roundg (cs.length - (t + 1))
          case measure => omega
          case rel => exact ⟨t + 1, tgy, cvy, by rw [HSN.out, parL_snoc]; rfl, by go_num, by omega, Nat.le_refl _, N, by rw [HSN.out, cbL_snoc]; exact M⟩
        | some j =>
          have hji := HLT.out j rfl
          have x2 : wr.cell? ⟨rb, t, none⟩ = some (.int .i64 (j : Int)) := x1
          obtain ⟨x3, x4⟩ := N.out.step (by omega) hji
          rw [nodeAt_nd Q.out hji] at HSN
          have j0 : (0 : Int) ≤ (j : Int) := by omega
          have j1 : (j : Int) < (len : Int) := by omega
          have j2 : ¬ (j : Int) < 0 := by omega
          have j2' : decide ((j : Int) < 0) = false := decide_eq_false j2
          by_cases h0 : s.nd j = 0
          · rw [h0] at x3 HSN
            clear x1 x4 h0
            go_wp2
            go_roundg (cs.length - (t + 1))
            case measure => omega
            case rel => exact ⟨t + 1, tgy, cvy, by rw [HSN.out, parL_snoc]; rfl, by go_num, by omega, Nat.le_refl _, N, by rw [HSN.out, cbL_snoc]; exact M⟩
          · obtain ⟨eb, hle, _⟩ := x4 h0 (Q.out.nde j hji h0)
            obtain ⟨q, hq⟩ : ∃ q, s.nd j = q + 1 := ⟨s.nd j - 1, by omega⟩
            have hqn : q < s.G.n := by omega
            have x5 : wr.cell? ⟨F.nO, j, none⟩ = some (.int .u32 ((q : Int) + 1)) := by rw [x3, hq]; rfl
            rw [hq] at HSN
            have HQ : Hid (s.nd j = q + 1) := hq
            clear x1 x3 x4 h0 hq hle
            have b0 : (((q : Int) + 1) == 0) = false := by simp; omega
            have b0' : ¬ ((q : Int) + 1 = 0) := by omega
            have hlen : Aside (((cbL (s.G.n + 1) s.cb ((ndL s cs).take t)) q).length ≤ 20000) := (by
              have h1 := cbL_len (s.G.n + 1) ((ndL s cs).take t) s.cb 10000 (fun k => Nat.le_trans (Q.out.cb16 k) (by have := Q.out.len; omega)) q
              have h2 : ((ndL s cs).take t).length ≤ 16 := by rw [List.length_take, ndL_len]; omega
              omega : ((cbL (s.G.n + 1) s.cb ((ndL s cs).take t)) q).length ≤ 20000)
            have HBX : Aside (F.B0 ≤ wr.heap.size) := N.out.sz
            go_wp2_with fail
            refine partJ _ HCJ.out F.B0 F.mB s.V s.G cvy (cbL (s.G.n + 1) s.cb ((ndL s cs).take t)) s.ovm s.own tgy wr q hqn hsm hlen.out HBX.out M _ _ _ _ _ _ _ _ _ _ _ _ _ _ _ _ _ _ _ _ _ _ _ _ _ _ _ _ _ _ _ _ _ _ _ _ _ _ _ _ _ _ _ _ _ _ _ _ _ _ _ _ _ _ _ _ _ _ _ _ _ _ _ _ _ _ _ _ _ _ _ _ _ _ _ _ _ _ _ _ _ _ _ _ _ _ _ _ _ _ _ _ _ _ _ _ _ _ _ _ _ _ _ _ _ _ _ _ _ _ _ _ _ _ _ _ _ _ _ _ _ _ _ _ _ _ _ _ _ _ _ _ _ _ _ _ _ _ _ _ _ _ _ _ _ _ _ _ _ _ _ _ _ _ _ _ _ _ _ _ _ _ _ _ _ _ _ _ _ _ _ _ _ _ _ _ _ _ _ _ _ _ _ _ _ _ _ _ _ _ _ _ _ _ _ _ _ _ _ _ _ _ _ _ _ _ _ _ _ _ _ _ _ _ _ _ _ _ _ _ _ _ _ _ _ _ _ _ _ _ _ _ _ _ _ _ _ _ _ _ _ _ _ _ _ _ _ _ _ _ _ _ _ _ _ _ _ _ _ _ _ _ _ _ _ _ _ _ _ _ _ _ _ _ _ _ _ _ _ _ _ _ _ _ _ _ _ _ _ _ _ _ _ _ _ _ _ _ _ _ _ _ _ _ _ _ _ _ _ _ _ _ _ _ _ _ _ _ _ _ _ _ _ _ _ _ _ _ _ _ _ _ _ _ _ _ _ _ _ _ _ _ _ _ _ _ _ _ _ _ _ _ _ _ _ _ _ post ?_
            intro y157 y158 y159 y160 y161 y162 y163 y164 y165 y166 y167 y168 y169 y170 y171 y172 y173 y174 w6 tg6 cv6 M6 F6
            have N6 : Aside (NR F w s i cs e ty ky tg6 (.slice (some ⟨rb, 0, none⟩) cs.length rc) w6) := N.out.fr F6.out (fun T z => Or.inl z)
            obtain ⟨s0, s1⟩ := N6.out.step (by omega) hji
            obtain ⟨b, _, s1, s2, s3⟩ := s1 (by rw [HQ.out]; omega) (Q.out.nde j hji (by rw [HQ.out]; omega))
            rw [HQ.out, Nat.add_sub_cancel] at s2 s3
            obtain ⟨_, _, _, v1, v2, v3, _⟩ := N6.out.ev
            have v4 := EvMem.cellAt v1 v2
            have v5 := EvMem.cellAt v1 v3
            clear v1 v2 v3 s0 N M F6 x2 x5
            go_step
            refine partI _ HCI.out s.G ty ky F.sE len j e q _ b w6 (by omega) s1 s2 s3 v4 v5 _ _ _ _ _ _ _ _ _ _ _ _ _ _ _ _ _ _ _ _ _ _ _ _ _ _ _ _ _ _ _ _ _ _ _ _ _ _ _ _ _ _ _ _ _ _ _ _ _ _ _ _ _ _ _ _ _ _ _ _ _ _ _ _ _ _ _ _ _ _ _ _ _ _ _ _ _ _ _ _ _ _ _ _ _ _ _ _ _ _ _ _ _ _ _ _ _ _ _ _ _ _ _ _ _ _ _ _ _ _ _ _ _ _ _ _ _ _ _ _ _ _ _ _ _ _ _ _ _ _ _ _ _ _ _ _ _ _ _ _ _ _ _ _ _ _ _ _ _ _ _ _ _ _ _ _ _ _ _ _ _ _ _ _ _ _ _ _ _ _ _ _ _ _ _ _ _ _ _ _ _ _ _ _ _ _ _ _ _ _ _ _ _ _ _ _ _ _ _ _ _ _ _ _ _ _ _ _ _ _ _ _ _ _ _ _ _ _ _ _ _ _ _ _ _ _ _ _ _ _ _ _ _ _ _ _ _ _ _ _ _ _ _ _ _ _ _ _ _ _ _ _ _ _ _ _ _ _ _ _ _ _ _ _ _ _ _ _ _ _ _ _ _ _ _ _ _ _ _ _ _ _ _ _ _ _ _ _ _ _ _ _ _ _ _ _ _ _ _ _ _ _ _ _ _ _ _ _ _ _ _ _ _ _ _ _ _ _ _ _ _ _ _ _ _ _ _ _ _ _ _ _ _ _ _ _ _ _ _ _ _ _ _ _ _ _ _ _ ?_
            intro y175 y176 y177 y178 y179 y180 y181 y182 y183 y184 y185 y186 y187 y188 y189 y190 y191 y192 y193 y194 y195 y196 y197 y198 y199 y200 y201 v24 nq hv24
            subst hv24
            go_wp2
            go_roundg (cs.length - (t + 1))
            case measure => omega
            case rel =>
              refine ⟨t + 1, tg6, cv6, by rw [HSN.out, parL_snoc], by go_num, by omega, Nat.le_refl _, N6.out.fr (S := fun _ => False) ⟨rfl, rfl, rfl, Nat.le_refl _, fun _ _ => rfl, fun _ _ _ => rfl⟩ (fun _ z => z.elim), ?_⟩
              rw [HSN.out, cbL_snoc, show cbStep (s.G.n + 1) (cbL (s.G.n + 1) s.cb ((ndL s cs).take t)) (q + 1) = upd (cbL (s.G.n + 1) s.cb ((ndL s cs).take t)) q ((cbL (s.G.n + 1) s.cb ((ndL s cs).take t)) q ++ [s.G.n + 1]) from by unfold cbStep; rw [if_neg (by omega), Nat.add_sub_cancel]]
              exact toAside (M6.out.fr (S := fun _ => False) ⟨rfl, rfl, rfl, Nat.le_refl _, fun _ _ => rfl, fun _ _ _ => rfl⟩ (fun _ z => z.elim))
      · obtain rfl : t = cs.length := by omega
        have ht' : ¬ (cs.length : Int) < (cs.length : Int) := by omega
        go_wp2
        go_meet
        rw [← ndL_len s cs, List.take_length] at M
        exact ⟨tgy, cvy, by rw [← ndL_len s cs, List.take_length], N, M⟩
  case rest =>
    clear N M
    obtain ⟨tgy, cvy, h24, N, M⟩ := hcut
    subst h24
    rename_i hK9
    refine hK9 _ _ (partN2 i _ HCL.out _ HCM.out _ HCN.out w sb so len cap F hFl hlt s _ tgy e cs ty ky _ rfl cvy _ _ _ _ _ _ _ _ _ _ _ _ _ _ _ _ _ _ _ _ _ _ _ _ _ _ _ _ _ _ _ _ _ _ _ _ _ _ _ _ _ _ _ _ _ _ _ _ _ _ _ _ _ _ _ _ _ _ _ _ _ _ _ _ _ _ _ _ _ _ _ _ _ _ _ _ _ _ _ _ _ _ _ _ _ _ _ _ _ _ _ _ _ _ _ _ _ _ _ _ _ _ _ _ _ _ _ _ _ _ _ _ _ _ _ _ _ _ _ _ _ _ _ _ _ _ _ _ _ _ _ _ _ _ _ _ _ _ _ _ _ _ _ _ _ _ _ _ _ _ _ _ _ _ _ _ _ _ _ _ _ _ _ _ _ _ _ _ _ _ _ _ _ _ _ _ _ _ _ _ _ _ _ _ _ _ _ _ _ _ _ _ _ _ _ _ _ _ _ _ _ _ _ _ _ _ _ _ _ _ _ _ _ _ _ _ _ _ _ _ _ _ _ _ _ _ _ _ _ _ _ _ _ _ _ _ _ _ _ _ _ _ _ _ _ _ _ _ _ _ _ _ _ _ _ _ _ _ _ _ _ _ _ _ _ _ _ _ _ _ _ _ _ _ _ _ _ _ _ _ _ _ _ _ _ _ _ _ _ _ _ _ _ _ _ _ _ _ _ _ _ _ _ _ _ _ _ _ _ _ _ _ _ _ _ _ _ _ _ _ _ _ _ _ _ _ _ _ _ _ _ _ _ _ N M Q KC KB KK K1 post HK.out)
end Go.Proofs.Ybulkxiu
