import Derived.Test.YbulkxiuRound
import Derived.Deep.DeepCutAuto
namespace Go.Proofs.Ybulkxiu
open Go.RowKit
set_option maxRecDepth 1000000
theorem codeR_ex : ∃ c, Yba.f5.body.bind firstLoop = some c := ⟨_, rfl⟩
theorem codeE_ex : ∃ c, (Yba.f5.body.bind (aftBlk 2)).join = some c := ⟨_, rfl⟩
theorem codeC_ex : ∃ c, (Yba.f5.body.bind (aftCond 110)).join = some c := ⟨_, rfl⟩
theorem codeB_ex : ∃ c, Yba.f5.body.bind (inCond 130) = some c := ⟨_, rfl⟩
theorem codeL_ex : ∃ c, (Yba.f5.body.bind (aftBlk 4)).join = some c := ⟨_, rfl⟩
theorem codeM_ex : ∃ c, (Yba.f5.body.bind (aftBlk 6)).join = some c := ⟨_, rfl⟩
theorem codeN_ex : ∃ c, (Yba.f5.body.bind (aftCond 235)).join = some c := ⟨_, rfl⟩
theorem codeI_ex : ∃ c, (Yba.f5.body.bind (aftReg 39)).join = some c := ⟨_, rfl⟩
theorem codeJ_ex : ∃ c, Yba.f5.body.bind (atReg 39) = some c := ⟨_, rfl⟩
theorem codeD_ex : ∃ c, (Yba.f5.body.bind (aftCond 130)).join = some c := ⟨_, rfl⟩

set_option maxHeartbeats 16000000 in
theorem build_any (w : World) (va : Option Addr) (sb so len cap : Nat) (hva : 0 < len → va = some ⟨sb, so, none⟩) (D : Nat → StepD) (hM : StepMem w sb so len D) (hlen : len ≤ 512) :
    Calls Yba.prog 5 #[.slice va len cap] w fun e w' => ∃ gB mB, e = .returned (.tuple #[.pointer (some ⟨gB, 0, none⟩), .pointer (some ⟨mB, 0, none⟩)]) ∧ ∃ F s, F.gB = gB ∧ F.mB = mB ∧ F.len = len ∧ F.B0 = w.heap.size ∧ BI F w s len w' := by
  have HVA := toAside hva
  clear hva
  have HM := toAside hM
  clear hM
  have mk : ∀ W : World, (Instr.makeMap 65 none).run Yba.prog W = .ok (.map (some W.heap.size)) (W.alloc (.map #[] 0)) := fun W => rfl
  have mk40 := fun W => make40 W len hlen
  have mk41 := fun W => make41 W len hlen
  go_enter Yba.func5, Yba.ntmps5
  go_wp2
  clear mk mk40 mk41
  have I0 : Aside (∀ W : World, W.heap = w.heap ++ obs w.heap.size len → W.os = w.os → W.tape = w.tape → W.output = w.output → BI (F0 w.heap.size len) w (S0 w.heap.size) 0 W) := fun W h1 h2 h3 h4 => BI0 w W len hlen h1 h2 h3 h4
  obtain ⟨F, hF⟩ : ∃ F, F = F0 w.heap.size len := ⟨_, rfl⟩
  have HF : Hid (F.gB = w.heap.size + 1 + 1 ∧ F.mB = w.heap.size + 1 + 1 + 1 + 1 + 1 ∧ F.xB = w.heap.size + 1 + 1 + 1 + 1 ∧ F.sE = w.heap.size + 1 + 1 + 1 + 1 + 1 + 1 ∧ F.nO = w.heap.size + 1 + 1 + 1 + 1 + 1 + 1 + 1 ∧ F.tyB = w.heap.size ∧ F.kyB = w.heap.size + 1) := by rw [hF]; exact ⟨rfl, rfl, rfl, rfl, rfl, rfl, rfl⟩
  have hFl : F.len = len := by rw [hF]; rfl
  have hFB : F.B0 = w.heap.size := by rw [hF]; rfl
  rw [← hF] at I0
  clear hF
  go_loopg [9, 10, 51] len (fun kx s9 s10 s51 wr => ∃ (i : Nat) (s : GS), s51 = .int .i64 i ∧ i ≤ len ∧ len - i ≤ kx ∧ s9 = s.recsV ∧ s10 = s.idbV ∧ Aside (BI F w s i wr))
  case atStart =>
    refine ⟨0, S0 w.heap.size, rfl, Nat.zero_le _, by omega, rfl, rfl, toAside (I0.out _ ?_ rfl rfl rfl)⟩
    exact heap8 w _ _ _ _ _ _ _ _
  case round =>
    clear I0
    obtain ⟨i, s, rfl, hin, hkx, rfl, rfl, I⟩ := hrel
    obtain ⟨f1, f2, f3, f4, f5, f6, f7⟩ := HF.out
    by_cases hlt : i < len
    · obtain rfl := HVA.out (by omega)
      obtain ⟨cR, hcR⟩ := codeR_ex
      have HCR := toAside hcR
      conv at hcR => lhs; whnf
      injection hcR with hcR
      subst hcR
      obtain ⟨cE, hcE⟩ := codeE_ex
      obtain ⟨cC, hcC⟩ := codeC_ex
      obtain ⟨cB, hcB⟩ := codeB_ex
      obtain ⟨cL, hcL⟩ := codeL_ex
      obtain ⟨cM, hcM⟩ := codeM_ex
      obtain ⟨cN, hcN⟩ := codeN_ex
      obtain ⟨cI, hcI⟩ := codeI_ex
      obtain ⟨cJ, hcJ⟩ := codeJ_ex
      obtain ⟨cD, hcD⟩ := codeD_ex
      rw [← f5, ← f4, ← f2, ← f3, ← f1, ← f7, ← f6]
      refine round_any _ HCR.out _ hcE _ hcC _ hcB _ hcL _ hcM _ hcN _ hcI _ hcJ _ hcD w sb so len cap D HM hlen F hFl hFB i s wr I hlt _ _ _ _ _ _ _ _ _ _ _ _ _ _ _ _ _ _ _ _ _ _ _ _ _ _ _ _ _ _ _ _ _ _ _ _ _ _ _ _ _ _ _ _ _ _ _ _ _ _ _ _ _ _ _ _ _ _ _ _ _ _ _ _ _ _ _ _ _ _ _ _ _ _ _ _ _ _ _ _ _ _ _ _ _ _ _ _ _ _ _ _ _ _ _ _ _ _ _ _ _ _ _ _ _ _ _ _ _ _ _ _ _ _ _ _ _ _ _ _ _ _ _ _ _ _ _ _ _ _ _ _ _ _ _ _ _ _ _ _ _ _ _ _ _ _ _ _ _ _ _ _ _ _ _ _ _ _ _ _ _ _ _ _ _ _ _ _ _ _ _ _ _ _ _ _ _ _ _ _ _ _ _ _ _ _ _ _ _ _ _ _ _ _ _ _ _ _ _ _ _ _ _ _ _ _ _ _ _ _ _ _ _ _ _ _ _ _ _ _ _ _ _ _ _ _ _ _ _ _ _ _ _ _ _ _ _ _ _ _ _ _ _ _ _ _ _ _ _ _ _ _ _ _ _ _ _ _ _ _ _ _ _ _ _ _ _ _ _ _ _ _ _ _ _ _ _ _ _ _ _ _ _ _ _ _ _ _ _ _ _ _ _ _ _ _ _ _ _ _ _ _ _ _ _ _ _ _ _ _ _ _ _ _ _ _ _ _ _ _ _ _ _ _ _ _ _ _ _ _ _ _ _ _ _ _ _ _ _ _ _ _ _ ?_
      intro e13 e14 e15 e16 e17 e18 e19 e20 e21 e22 e23 e24 e26 e27 e28 e30 e31 e32 e33 e52 e53 e54 e55 e56 e57 e58 e59 e60 e61 e62 e63 e64 e65 e66 e67 e68 e69 e70 e71 e72 e73 e74 e75 e76 e77 e78 e79 e80 e81 e82 e83 e84 e85 e86 e87 e88 e89 e90 e91 e92 e93 e94 e95 e96 e97 e98 e99 e100 e101 e102 e103 e104 e105 e106 e107 e108 e109 e110 e111 e112 e113 e114 e115 e116 e117 e118 e119 e120 e121 e122 e123 e124 e125 e126 e127 e128 e129 e130 e131 e132 e133 e134 e135 e136 e137 e138 e139 e140 e141 e142 e143 e144 e145 e146 e147 e148 e149 e150 e151 e152 e153 e154 e155 e156 e157 e158 e159 e160 e161 e162 e163 e164 e165 e166 e167 e168 e169 e170 e171 e172 e173 e174 e175 e176 e177 e178 e179 e180 e181 e182 e183 e184 e185 e186 e187 e188 e189 e190 e191 e192 e193 e194 e195 e196 e197 e198 e199 e200 e201 e202 e203 e204 e205 e206 e207 e208 e209 e210 e211 e212 e213 e214 e215 e216 e217 e218 e219 e220 e221 e222 e223 e224 e225 e226 e227 e228 e229 e230 e231 e232 e233 e234 e235 e236 e237 e238 e239 e240 e241 e242 e243 e244 e245 e246 e247 e248 e249 e250 e251 e252 e253 e254 e255 e256 e257 e258 e259 e260 e261 e262 e263 e264 e265 e266 e267 e268 e269 e270 e271 e272 e273 e274 e275 e276 e277 e278 e279 e280 e281 e282 e283 e284 e285 e286 e287 e288 e289 e290 e291 e292 e293 e294 e295 e296 e297 e298 e299 e300 e301 e302 e303 e304 e305 e306 e307 e308 e309 e310 e311 e312 e313 e314 e315 e316 e317 e318 e319 e320 e321 e322 e323 e324 e325 e326 e327 e328 e329 e330 e331 e332 e333 e334 e335 e336 e337 e338 e339 e340 e341 e342 e343 e344 e345 e346 e347 e348 e349 s' w' hB
      rw [f5, f4, f2, f3, f1, f7, f6]
      go_wp2
      go_roundg (len - (i + 1))
      case measure => omega
      case rel => exact ⟨i + 1, s', by go_num, by omega, Nat.le_refl _, rfl, rfl, toAside hB⟩
    · obtain rfl : i = len := by omega
      have hlt' : ¬ (i : Int) < (i : Int) := by omega
      clear f1 f2 f3 f4 f5 f6 f7
      go_wp2
      first | go_ret | go_ret2
      exact ⟨_, _, rfl, F, HF.out.1, HF.out.2.1, hFl, hFB, s, I.out⟩
end Go.Proofs.Ybulkxiu
