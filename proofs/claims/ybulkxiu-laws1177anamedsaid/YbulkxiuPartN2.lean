import Derived.Test.YbulkxiuPartM
namespace Go.Proofs.Ybulkxiu
open Go.RowKit Go.Lib
set_option maxRecDepth 1000000
theorem nodeAt_nd {F : Fx} {s : GS} {i : Nat} (Q : NQ F s i) {j : Nat} (hj : j < i) : nodeAt s.evp s.nd (some j) = s.nd j := by
  show (if (s.evp j).isSome = true then s.nd j else 0) = s.nd j
  by_cases h : s.nd j = 0
  · rw [h]; simp
  · rw [if_pos (Q.nde j hj h)]
theorem MI.frL {S : Nat → Prop} {B0 : Nat} {w w' : World} {tg tg' : Nat → Nat} {mB : Nat} {V : MVs} {G : PG} {cvm : Nat → Value} {cbm : Nat → List Nat} {ovm : Nat → Value} {own : Nat → List Nat} (h : MI B0 w tg mB V G cvm cbm ovm own) (f : Fr S w tg w' tg') (hS : ∀ T, S T → T = 37) : MI B0 w' tg' mB V G cvm cbm ovm own := h.fr f (fun T q => by have := hS T q; omega)
set_option maxHeartbeats 8000000 in
theorem partN2 (i : Nat) (code : Code) (hcode : (Yba.f5.body.bind (aftBlk 4)).join = some code) (codeM : Code) (hcodeM : (Yba.f5.body.bind (aftBlk 6)).join = some codeM) (codeN : Code) (hcodeN : (Yba.f5.body.bind (aftCond 235)).join = some codeN) (w : World) (sb so len cap : Nat) (F : Fx) (hFl : F.len = len) (hlt : i < len) (s : GS) (wc : World) (tgx : Nat → Nat) (e : Nat) (cs : List (Option Nat)) (ty ky : Bool) (p : Nat) (hp : p = parL s.G ty ky (ndL s cs)) (cvm : Nat → Value)
    (c1 c2 c3 c25 c29 c34 c35 c36 c37 c38 c39 c40 c41 c42 c43 c44 c45 c46 c47 c48 c49 c350 c351 b16 b17 b18 b19 b20 b21 b26 b27 b28 b30 b31 b32 b33 b52 b53 b54 b55 b56 b57 b58 b59 b60 b61 b62 b63 b64 b65 b66 b67 b68 b69 b70 b71 b72 b73 b74 b75 b76 b77 b78 b79 b80 b81 b82 b83 b84 b85 b86 b87 b88 b89 b90 b91 b92 b93 b94 b95 b96 b97 b98 b99 b100 b101 b102 b103 b104 b105 b106 b107 b108 b109 b110 b111 b112 b113 b114 b115 b116 b117 b118 b119 b120 b121 b122 b123 b124 b125 b126 b127 b128 b129 b130 b131 b132 b133 b134 b135 b136 b137 b138 b139 b140 b141 b142 b143 b144 b145 b146 b147 b148 b149 b150 b151 b152 b153 b154 b155 b156 b157 b158 b159 b160 b161 b162 b163 b164 b165 b166 b167 b168 b169 b170 b171 b172 b173 b174 b175 b176 b177 b178 b179 b180 b181 b182 b183 b184 b185 b186 b187 b188 b189 b190 b191 b192 b193 b194 b195 b196 b197 b198 b199 b200 b201 b202 b203 b204 b205 b206 b207 b208 b209 b210 b211 b212 b213 b214 b215 b216 b217 b218 b219 b220 b221 b222 b223 b224 b225 b226 b227 b228 b229 b230 b231 b232 b233 b234 b235 b236 b237 b238 b239 b240 b241 b242 b243 b244 b245 b246 b247 b248 b249 b250 b251 b252 b253 b254 b255 b256 b257 b258 b259 b260 b261 b262 b263 b264 b265 b266 b267 b268 b269 b270 b271 b272 b273 b274 b275 b276 b277 b278 b279 b280 b281 b282 b283 b284 b285 b286 b287 b288 b289 b290 b291 b292 b293 b294 b295 b296 b297 b298 b299 b300 b301 b302 b303 b304 b305 b306 b307 b308 b309 b310 b311 b312 b313 b314 b315 b316 b317 b318 b319 b320 b321 b322 b323 b324 b325 b326 b327 b328 b329 b330 b331 b332 b333 b334 b335 b336 b337 b338 b339 b340 b341 b342 b343 b344 b345 b346 b347 b348 b349 : Value) (N : Aside (NR F w s i cs e ty ky tgx b16 wc)) (M : Aside (MI F.B0 wc tgx F.mB s.V s.G cvm (cbL (s.G.n + 1) s.cb (ndL s cs)) s.ovm s.own)) (Q : Aside (NQ F s i)) (KC KB KK K1 : Act → World → Prop) (post : Ending → World → Prop)
    (hK : ∀ (y23 y24 y26 y27 y28 y30 y31 y52 y53 y54 y55 y56 y57 y58 y59 y60 y61 y62 y63 y64 y65 y66 y67 y68 y69 y70 y71 y72 y73 y74 y75 y76 y77 y78 y79 y80 y81 y82 y83 y84 y85 y86 y87 y88 y89 y90 y91 y92 y93 y94 y95 y96 y97 y98 y99 y100 y101 y102 y103 y104 y105 y106 y107 y108 y109 y110 y111 y112 y113 y114 y115 y116 y117 y118 y119 y120 y121 y122 y123 y124 y125 y126 y127 y128 y129 y130 y131 y132 y133 y134 y135 y136 y137 y138 y139 y140 y141 y142 y143 y144 y145 y146 y147 y148 y149 y150 y151 y152 y153 y154 y155 y156 y157 y158 y159 y160 y161 y162 y163 y164 y165 y166 y167 y168 y169 y170 y171 y172 y173 y174 y175 y176 y177 y178 y179 y180 y181 y182 y183 y184 y185 y186 y187 y188 y189 y190 y191 y192 y193 y194 y195 y196 y197 y198 y199 y200 y201 y202 y203 y204 y205 y206 y207 y208 y209 y210 y211 y212 y213 y214 y215 y216 y217 y218 y219 y220 y221 y222 y223 y224 y225 y226 y227 y228 y229 y230 y231 y232 y233 y234 y235 y236 y237 y238 y239 y240 y241 y242 y243 y244 y245 y246 y247 y248 y249 y250 y251 y252 y253 y254 y255 y256 y257 y258 y259 y260 y261 y262 y263 y264 y265 y266 y267 y268 y269 y270 y271 y272 y273 y274 y275 y276 y277 y278 y279 y280 y281 y282 y283 y284 y285 y286 y287 y288 y289 y290 y291 y292 y293 y294 y295 y296 y297 y298 y299 y300 y301 y302 y303 y304 y305 y306 y307 y308 y309 y310 y311 y312 y313 y314 y315 y316 y317 y318 y319 y320 y321 y322 y323 y324 y325 y326 y327 y328 y329 y330 y331 y332 y333 y334 y335 y336 y337 y338 y339 y340 y341 y342 y343 y344 y345 y346 y347 y348 y349 : Value) (s' : GS) (wx : World), s'.recsV = s.recsV → s'.idbV = s.idbV → s'.evp i = some e → Aside (DR F w s' (i + 1) wx) → Aside (XI F.B0 wx s'.tg F.xB F.mb s'.nmx i s'.recsV s'.idbV s'.evp) → KC ⟨#[.slice (some ⟨sb, so, none⟩) len cap, c1, c2, c3, .pointer (some ⟨F.tyB, 0, none⟩), .pointer (some ⟨F.kyB, 0, none⟩), .pointer (some ⟨F.gB, 0, none⟩), .pointer (some ⟨F.xB, 0, none⟩), .pointer (some ⟨F.mB, 0, none⟩), s.recsV, s.idbV, .slice (some ⟨F.sE, 0, none⟩) len len, .slice (some ⟨F.nO, 0, none⟩) len len, .int .i64 (i : Int), .pointer (some ⟨sb, so + i * 4, none⟩), .string (idS i), b16, b17, b18, b19, b20, b21, .pointer (some ⟨e, 0, none⟩), y23, y24, c25, y26, y27, y28, c29, y30, y31, b32, b33, c34, c35, c36, c37, c38, c39, c40, c41, c42, c43, c44, c45, c46, c47, c48, c49, .int .i64 (len : Int), .int .i64 (i : Int), y52, y53, y54, y55, y56, y57, y58, y59, y60, y61, y62, y63, y64, y65, y66, y67, y68, y69, y70, y71, y72, y73, y74, y75, y76, y77, y78, y79, y80, y81, y82, y83, y84, y85, y86, y87, y88, y89, y90, y91, y92, y93, y94, y95, y96, y97, y98, y99, y100, y101, y102, y103, y104, y105, y106, y107, y108, y109, y110, y111, y112, y113, y114, y115, y116, y117, y118, y119, y120, y121, y122, y123, y124, y125, y126, y127, y128, y129, y130, y131, y132, y133, y134, y135, y136, y137, y138, y139, y140, y141, y142, y143, y144, y145, y146, y147, y148, y149, y150, y151, y152, y153, y154, y155, y156, y157, y158, y159, y160, y161, y162, y163, y164, y165, y166, y167, y168, y169, y170, y171, y172, y173, y174, y175, y176, y177, y178, y179, y180, y181, y182, y183, y184, y185, y186, y187, y188, y189, y190, y191, y192, y193, y194, y195, y196, y197, y198, y199, y200, y201, y202, y203, y204, y205, y206, y207, y208, y209, y210, y211, y212, y213, y214, y215, y216, y217, y218, y219, y220, y221, y222, y223, y224, y225, y226, y227, y228, y229, y230, y231, y232, y233, y234, y235, y236, y237, y238, y239, y240, y241, y242, y243, y244, y245, y246, y247, y248, y249, y250, y251, y252, y253, y254, y255, y256, y257, y258, y259, y260, y261, y262, y263, y264, y265, y266, y267, y268, y269, y270, y271, y272, y273, y274, y275, y276, y277, y278, y279, y280, y281, y282, y283, y284, y285, y286, y287, y288, y289, y290, y291, y292, y293, y294, y295, y296, y297, y298, y299, y300, y301, y302, y303, y304, y305, y306, y307, y308, y309, y310, y311, y312, y313, y314, y315, y316, y317, y318, y319, y320, y321, y322, y323, y324, y325, y326, y327, y328, y329, y330, y331, y332, y333, y334, y335, y336, y337, y338, y339, y340, y341, y342, y343, y344, y345, y346, y347, y348, y349, c350, c351], []⟩ wx) :
    let Q' : Exit → Act → World → Prop := bodyPost Yba.prog Yba.f5 post
    Code.wp Yba.prog code (Exit.then KC (Exit.inBlock 1 (Exit.then KB (Exit.then KK (Exit.inBlock 0 (Exit.then K1 Q')))))) ⟨#[.slice (some ⟨sb, so, none⟩) len cap, c1, c2, c3, .pointer (some ⟨F.tyB, 0, none⟩), .pointer (some ⟨F.kyB, 0, none⟩), .pointer (some ⟨F.gB, 0, none⟩), .pointer (some ⟨F.xB, 0, none⟩), .pointer (some ⟨F.mB, 0, none⟩), s.recsV, s.idbV, .slice (some ⟨F.sE, 0, none⟩) len len, .slice (some ⟨F.nO, 0, none⟩) len len, .int .i64 (i : Int), .pointer (some ⟨sb, so + i * 4, none⟩), .string (idS i), b16, b17, b18, b19, b20, b21, .pointer (some ⟨e, 0, none⟩), .int .u32 ((s.G.n : Int) + 1), .int .u32 (p : Int), c25, b26, b27, b28, c29, b30, b31, b32, b33, c34, c35, c36, c37, c38, c39, c40, c41, c42, c43, c44, c45, c46, c47, c48, c49, .int .i64 (len : Int), .int .i64 (i : Int), b52, b53, b54, b55, b56, b57, b58, b59, b60, b61, b62, b63, b64, b65, b66, b67, b68, b69, b70, b71, b72, b73, b74, b75, b76, b77, b78, b79, b80, b81, b82, b83, b84, b85, b86, b87, b88, b89, b90, b91, b92, b93, b94, b95, b96, b97, b98, b99, b100, b101, b102, b103, b104, b105, b106, b107, b108, b109, b110, b111, b112, b113, b114, b115, b116, b117, b118, b119, b120, b121, b122, b123, b124, b125, b126, b127, b128, b129, b130, b131, b132, b133, b134, b135, b136, b137, b138, b139, b140, b141, b142, b143, b144, b145, b146, b147, b148, b149, b150, b151, b152, b153, b154, b155, b156, b157, b158, b159, b160, b161, b162, b163, b164, b165, b166, b167, b168, b169, b170, b171, b172, b173, b174, b175, b176, b177, b178, b179, b180, b181, b182, b183, b184, b185, b186, b187, b188, b189, b190, b191, b192, b193, b194, b195, b196, b197, b198, b199, b200, b201, b202, b203, b204, b205, b206, b207, b208, b209, b210, b211, b212, b213, b214, b215, b216, b217, b218, b219, b220, b221, b222, b223, b224, b225, b226, b227, b228, b229, b230, b231, b232, b233, b234, b235, b236, b237, b238, b239, b240, b241, b242, b243, b244, b245, b246, b247, b248, b249, b250, b251, b252, b253, b254, b255, b256, b257, b258, b259, b260, b261, b262, b263, b264, b265, b266, b267, b268, b269, b270, b271, b272, b273, b274, b275, b276, b277, b278, b279, b280, b281, b282, b283, b284, b285, b286, b287, b288, b289, b290, b291, b292, b293, b294, b295, b296, b297, b298, b299, b300, b301, b302, b303, b304, b305, b306, b307, b308, b309, b310, b311, b312, b313, b314, b315, b316, b317, b318, b319, b320, b321, b322, b323, b324, b325, b326, b327, b328, b329, b330, b331, b332, b333, b334, b335, b336, b337, b338, b339, b340, b341, b342, b343, b344, b345, b346, b347, b348, b349, c350, c351], []⟩ wc := by
  intro Q'
  conv at hcode => lhs; whnf
  injection hcode with hcode
  subst hcode
  have HC := toAside hcodeM
  have HCN := toAside hcodeN
  conv at hcodeM => lhs; whnf
  injection hcodeM with hcodeM
  subst hcodeM
  clear hcodeN
  have HK := toAside hK
  clear hK
  obtain ⟨ra, rc, hb16, hrc, hq16⟩ := N.out.r16.form
  clear hq16
  subst hb16
  have HP := toAside hp
  have h7 : Aside (∀ t j, cs.getD t none = some j → j < i) := by obtain ⟨_, _, _, _, _, _, _, _, _, h, _⟩ := N.out.ev; exact toAside h
  have h6 : cs.length ≤ 16 := by obtain ⟨_, _, _, _, _, _, _, _, h, _, _⟩ := N.out.ev; exact h
  have hple : p ≤ s.G.n := by rw [HP.out]; exact parL_le _ _ _ _ _ (N.out.num.le h7.out)
  clear hp
  go_upto_block 6 with fail
  go_cut [28, 30] from 52 to 349 (fun v28 v30 wx => ∃ tgy, Aside (NR F w s i cs e ty ky tgy (.slice ra cs.length rc) wx) ∧ Aside (MI F.B0 wx tgy F.mB s.V s.G cvm (cbL (s.G.n + 1) s.cb (ndL s cs)) s.ovm s.own) ∧ Aside (RowL F.B0 wx tgy 37 v28 (ownL s.evp s.nd p cs)))
  case first =>
    clear HK
    go_wp2_with fail
    go_loopg [28, 205] cs.length (fun kx s28 s205 wx => ∃ (t : Nat) (tgy : Nat → Nat), s205 = .int .i64 t ∧ t ≤ cs.length ∧ cs.length - t ≤ kx ∧ Aside (NR F w s i cs e ty ky tgy (.slice ra cs.length rc) wx) ∧ Aside (MI F.B0 wx tgy F.mB s.V s.G cvm (cbL (s.G.n + 1) s.cb (ndL s cs)) s.ovm s.own) ∧ Aside (RowL F.B0 wx tgy 37 s28 (ownL s.evp s.nd p (cs.take t))))
    case atStart => exact ⟨0, tgx, rfl, Nat.zero_le _, by omega, N, M, RowF.nil _ _ _ _ _ _ _⟩
    case round =>
      clear N M
      obtain ⟨t, tgy, rfl, htn, hkx, N, M, R⟩ := hrel
      by_cases hlt2 : t < cs.length
      · have t0 : (0 : Int) ≤ (t : Int) := by omega
        have t1 : (t : Int) < (cs.length : Int) := by omega
        obtain ⟨rb, rc', hr1, _, x1⟩ := N.out.cell hlt2
        obtain ⟨rfl, rfl⟩ : ra = some ⟨rb, 0, none⟩ ∧ rc = rc' := by simpa using hr1
        clear hr1
        have HSN := toAside (ownL_snoc s.evp s.nd p cs t hlt2)
        have HLT := toAside (h7.out t)
        obtain ⟨o, ho⟩ : ∃ o, o = cs.getD t none := ⟨_, rfl⟩
        rw [← ho] at x1 HSN HLT
        clear ho
        cases o with
        | none =>
          have x2 : wr.cell? ⟨rb, t, none⟩ = some (.int .i64 (-1)) := x1
          clear x1
          go_wp2
          go_roundg (cs.length - (t + 1))
          case measure => omega
          case rel => exact ⟨t + 1, tgy, by go_num, by omega, Nat.le_refl _, N, M, by rw [HSN.out, if_neg (by simp [nodeAt]), List.append_nil]; exact R⟩
        | some j =>
          have hji := HLT.out j rfl
          have x2 : wr.cell? ⟨rb, t, none⟩ = some (.int .i64 (j : Int)) := x1
          have x3 := (N.out.step (by omega) hji).1
          rw [nodeAt_nd Q.out hji] at HSN
          obtain ⟨x, hx⟩ : ∃ x, x = s.nd j := ⟨_, rfl⟩
          rw [← hx] at x3 HSN
          clear x1 hx
          have j0 : (0 : Int) ≤ (j : Int) := by omega
          have j1 : (j : Int) < (len : Int) := by omega
          by_cases h0 : x = 0
          · subst h0
            go_wp2
            go_roundg (cs.length - (t + 1))
            case measure => omega
            case rel => exact ⟨t + 1, tgy, by go_num, by omega, Nat.le_refl _, N, M, by rw [HSN.out, if_neg (by simp), List.append_nil]; exact R⟩
          · by_cases hp : x = p
            · have b1 : ((x : Int) != 0) = true := by simp; omega
              have b2 : ((x : Int) != (p : Int)) = false := by simp; omega
              have H0 : Hid (x = p) := hp
              clear h0 hp
              go_wp2
              go_roundg (cs.length - (t + 1))
              case measure => omega
              case rel => exact ⟨t + 1, tgy, by go_num, by omega, Nat.le_refl _, N, M, by rw [HSN.out, if_neg (by rw [H0.out]; simp), List.append_nil]; exact R⟩
            · have b1 : ((x : Int) != 0) = true := by simp; omega
              have b2 : ((x : Int) != (p : Int)) = true := by simp; omega
              have H0 : Aside (x ≠ 0 ∧ x ≠ p) := ⟨h0, hp⟩
              clear h0 hp
              have HSZ : Aside ((ownL s.evp s.nd p (cs.take t)).length ≤ 200000) := (by
                have := List.length_filter_le (fun x => x ≠ 0 && x ≠ p) ((cs.take t).map (nodeAt s.evp s.nd))
                unfold ownL
                have h2 : ((cs.take t).map (nodeAt s.evp s.nd)).length ≤ 16 := by rw [List.length_map, List.length_take]; omega
                omega : (ownL s.evp s.nd p (cs.take t)).length ≤ 200000)
              obtain ⟨tA, qi, qz0, qz1, qz2⟩ := info_parts info45
              have hiA := toAside qi
              have hz0A := toAside qz0
              have hz1A := toAside qz1
              have hz2A := toAside qz2
              clear qi qz0 qz1 qz2
              have RA : Aside (RowF F.B0 (wr.alloc (.cells #[.int .u32 (x : Int)] 45)) (nT tgy wr.heap.size 18) 37 45 1 u28 (ownL s.evp s.nd p (cs.take t)).length (u32F (ownL s.evp s.nd p (cs.take t)))) := RowF.fr R.out (Fr.of_alloc (fun _ => False) wr tgy _ 18) (fun q => q)
              have HBX : Aside (F.B0 ≤ (wr.alloc (.cells #[.int .u32 (x : Int)] 45)).heap.size) := (by have := N.out.sz; simp; omega : F.B0 ≤ (wr.alloc (.cells #[.int .u32 (x : Int)] 45)).heap.size)
              go_wp2_with (first | (at_builtin; refine wpList_rowF rfl (.tmp 226) (.tmp 231) 41 rfl tA _ 4 Yba.underlying41 hiA.out hz0A.out hz1A.out hz2A.out rfl (by decide) rfl RA.out ⟨_, 0, none⟩ 1 [.int .u32 (x : Int)] rfl rfl (news1 _ _ _ _ (by simp)) (snoc_news _ rfl) (by unfold maxLen; have := HSZ.out; omega) (by have := HSZ.out; omega) HBX.out (u32F (ownL s.evp s.nd p (cs.take t) ++ [x])) (u32F_old _ _) (u32F_new _ _) ?_; intro g1 c1x w1 r1 f1; obtain ⟨tg1, F1, R1⟩ : ∃ tg1, Aside (Fr (fun T => T = 37) wr tgy w1 tg1) ∧ Aside (RowF F.B0 w1 tg1 37 45 1 (.slice (some ⟨g1, 0, none⟩) ((ownL s.evp s.nd p (cs.take t)).length + 1) c1x) ((ownL s.evp s.nd p (cs.take t)).length + 1) (u32F (ownL s.evp s.nd p (cs.take t) ++ [x]))) := ⟨_, (Fr.of_alloc (fun T => T = 37) wr tgy (.cells #[.int .u32 (x : Int)] 45) 18).trans f1, r1⟩; clear r1 f1))
              go_roundg (cs.length - (t + 1))
              case measure => omega
              case rel =>
                refine ⟨t + 1, tg1, by go_num, by omega, Nat.le_refl _, N.out.fr F1.out (fun T q => Or.inr q), M.out.frL F1.out (fun T q => q), ?_⟩
                rw [HSN.out, if_pos H0.out]
                have h := R1.out
                show RowL F.B0 w1 tg1 37 _ _
                unfold RowL
                rw [List.length_append]
                exact h
      · obtain rfl : t = cs.length := by omega
        have ht' : ¬ (cs.length : Int) < (cs.length : Int) := by omega
        go_wp2
        go_meet
        rw [List.take_length] at R
        exact ⟨tgy, N, M, R⟩
  case rest =>
    clear N M
    obtain ⟨tgy, N, M, R⟩ := hcut
    rename_i hK9
    obtain ⟨va, vc, hv28, hq27, hq28⟩ := R.out.form
    clear hq27 hq28
    subst hv28
    obtain ⟨tgz, hnm⟩ := N.out.nm M.out R.out
    have HN := toAside hnm
    clear hnm
    refine hK9 _ _ (partM i _ HC.out _ HCN.out w sb so len cap F hFl hlt s _ tgz e cs ty ky p HP.out hple cvm va _ vc _ _ _ _ _ _ _ _ _ _ _ _ _ _ _ _ _ _ _ _ _ _ _ _ _ _ _ _ _ _ _ _ _ _ _ _ _ _ _ _ _ _ _ _ _ _ _ _ _ _ _ _ _ _ _ _ _ _ _ _ _ _ _ _ _ _ _ _ _ _ _ _ _ _ _ _ _ _ _ _ _ _ _ _ _ _ _ _ _ _ _ _ _ _ _ _ _ _ _ _ _ _ _ _ _ _ _ _ _ _ _ _ _ _ _ _ _ _ _ _ _ _ _ _ _ _ _ _ _ _ _ _ _ _ _ _ _ _ _ _ _ _ _ _ _ _ _ _ _ _ _ _ _ _ _ _ _ _ _ _ _ _ _ _ _ _ _ _ _ _ _ _ _ _ _ _ _ _ _ _ _ _ _ _ _ _ _ _ _ _ _ _ _ _ _ _ _ _ _ _ _ _ _ _ _ _ _ _ _ _ _ _ _ _ _ _ _ _ _ _ _ _ _ _ _ _ _ _ _ _ _ _ _ _ _ _ _ _ _ _ _ _ _ _ _ _ _ _ _ _ _ _ _ _ _ _ _ _ _ _ _ _ _ _ _ _ _ _ _ _ _ _ _ _ _ _ _ _ _ _ _ _ _ _ _ _ _ _ _ _ _ _ _ _ _ _ _ _ _ _ _ _ _ _ _ _ _ _ _ _ _ _ _ _ _ _ _ _ _ _ _ _ _ _ _ _ _ _ _ _ _ _ _ HN Q KC KB KK K1 post HK.out)
end Go.Proofs.Ybulkxiu
