import Derived.Test.YbulkchuuGreatDoorHB15
namespace Go.Proofs.YbulkchuuGreatDoor
open Go.RowKit Go.Maps Classical
set_option linter.unusedVariables false
set_option linter.unusedSimpArgs false
set_option maxRecDepth 100000

/-- what the users' loop reads -/
structure Rd14 (Bd B k N cb fbk ab wb pb ug U : Nat) (D : DIn) (uL : List ByteArray) (T : Nat → Prop) (w0 : World) : Prop where
  hk : k < 2
  hN : N ≤ 255
  hNn : D.n = (N : Int)
  sm : Small D
  hU : U ≤ 900000
  hul : uL.length = U
  us : ∀ u ∈ uL, u.size ≤ 140737488355328
  ucell : ∀ i u, uL[i]? = some u → w0.cell? ⟨ug, i, none⟩ = some (.string u)
  uwb : ug ≠ wb
  bdB : Bd ≤ B
  hB : B ≤ w0.heap.size
  wbB : B ≤ wb
  file : FileAt Bd fbk D (listOf D) (withinOf D) w0
  ask : AskAt ab N (askB D) w0
  memb : MembAt D uL wb N (mOf D uL 0) (fun _ => False) w0
  cb5 : w0.cell? ⟨cb, 5 + k, none⟩ = some (.slice (some ⟨pb, 0, none⟩) U U)
  cbB : cb < B
  pbB : pb < B
  tB : ∀ b, T b → b < B
  prin : PrinAt Bd fbk D uL U pb U T w0
set_option maxHeartbeats 64000000 in
theorem hB14 {e0 e1 e2 e3 e4 e5 e6 e8 e9 e10 e11 e12 e13 e14 e15 e16 e17 e18 e19 e20 e21 e22 e24 e28 e29 e31 e32 e33 e34 e35 e36 e37 e38 e39 e40 e41 e42 e43 e44 e45 e46 e47 e48 e49 e50 e51 e52 e53 e54 e55 e56 e57 e58 e59 e60 e61 e62 e63 e64 e65 e66 e67 e68 e69 e70 e71 e72 e73 e74 e75 e76 e77 e78 e79 e80 e81 e82 e83 e84 e85 e86 e87 e88 e89 e90 e91 e92 e93 e94 e95 e96 e97 e98 e99 e100 e101 e102 e103 e104 e105 e106 e107 e108 e109 e110 e111 e112 e113 e114 e115 e116 e117 e118 e119 e120 e121 e122 e123 e124 e125 e126 e127 e128 e129 e130 e131 e132 e133 e134 e135 e136 e137 e138 e139 e140 e141 e142 e143 e144 e145 e146 e147 e148 e149 e150 e151 e152 e153 e154 e155 e156 e157 e158 e159 e160 e161 e162 e163 e164 e165 e166 e167 e168 e169 e170 e171 e172 e173 e174 e175 e176 e177 e178 e179 e180 e181 e182 e183 e184 e185 e186 e187 e188 e189 e190 e191 e192 e193 e194 e195 e196 e197 e198 e199 e200 e201 e202 e203 e204 e205 e206 e207 e208 e209 e210 e211 e212 e213 e214 e215 e216 e217 e218 e219 e220 e221 e222 e223 e224 e225 e226 e227 e228 e229 e230 e231 e232 e233 e234 e235 e236 e237 e238 e239 e240 e241 e242 e243 e244 e245 e246 e247 e248 e249 e250 e251 e252 e253 e254 e255 e256 e257 e258 e259 e260 e261 e262 e263 e264 e265 e266 e267 e268 e269 e270 e271 e272 e273 e274 e275 e276 e277 e278 e279 e280 e281 e282 e283 e284 e285 e286 e287 e288 e289 e290 e291 e292 e293 e294 e295 e296 e297 e298 e299 e300 e301 e302 e303 e304 e305 e306 e307 e308 e309 e310 e311 e312 e313 e314 e315 e316 e317 e318 e319 e320 e321 e322 e323 e324 e325 e326 e327 e328 e329 e330 e331 e332 e333 e334 e335 e336 e337 e338 e339 e340 e341 e342 e343 e344 e345 e346 e347 e348 e349 e350 e351 e352 e353 e354 e355 e356 e357 e358 e359 e360 e361 e362 e363 e364 e365 e366 e367 e368 e369 e373 e374 e375 e376 e377 e378 e379 e380 e381 e382 e383 e384 e385 e386 e387 e388 e389 e390 e391 e392 e393 e394 e395 e396 e397 e398 e399 e400 e401 e402 e403 e404 e405 e406 e407 e408 e409 e410 e411 e412 e413 e414 e415 e416 e417 e418 e419 e420 e421 e422 e423 e424 e425 e426 e427 e428 e429 e430 e431 e432 e433 e434 e435 e436 e437 e438 e439 e440 e441 e442 e443 e444 e445 e446 e447 e448 e449 e450 e451 e452 e453 e454 e455 e456 e457 e458 e459 e460 e461 e462 e463 e464 e465 e466 e467 e468 e469 e470 e471 e472 e473 e474 e475 e476 e477 e478 e479 e480 e481 e482 e483 e484 e485 e486 e487 e488 e489 e490 e491 e492 e493 e494 e495 e496 e497 e498 e499 e500 e501 e502 e503 e504 e505 e506 e507 e508 e509 e510 e511 e512 e513 e514 e515 e516 e517 e518 e519 e520 e521 e522 e523 e524 e525 e526 e527 e528 e529 e530 e531 : Value} (Q : Exit → Act → World → Prop) (Bd B k N cb fbk ab wb pb ug U uc : Nat) (D : DIn) (uL : List ByteArray) (T : Nat → Prop) (w0 : World) (h : Rd14 Bd B k N cb fbk ab wb pb ug U D uL T w0)
    (hQ : ∀ (x4 x31 x32 x33 x34 x35 x37 x38 x40 x41 x42 x43 x372 x373 x374 x375 x376 x377 x378 x379 x380 x381 x382 x383 x384 x385 x386 x387 x388 x389 x390 x391 x392 x393 x394 x395 x396 x397 x398 x399 x400 x401 x402 x403 x404 x405 x406 x407 x408 x409 x410 x411 x412 x413 x414 x415 x416 x417 x418 x419 x420 x421 x422 x423 x424 x425 x426 x427 x428 x429 x430 x431 x432 x433 x434 x435 x436 x437 x438 x439 x440 x441 x442 x443 x444 x445 x446 x447 x448 x449 x450 x451 x452 x453 x454 x455 x456 x457 x458 x459 x460 x461 x462 x463 x464 x465 x466 x467 x468 x469 x470 x471 x472 x473 x474 x475 x476 x477 x478 x479 x480 x481 x482 x483 x484 x485 x486 x487 x488 x489 x490 x491 x492 x493 x494 x495 x496 x497 x498 x499 x500 x501 x502 x503 x504 x505 x506 x507 x508 x509 x510 x511 : Value) (wr : World), (∃ Mm, MembAt D uL wb N (mOf D uL U) Mm wr ∧ (∀ b, Mm b → w0.heap.size ≤ b ∧ b < wr.heap.size) ∧ KeepOff (fun b => b = wb) w0 wr) → Q .normal ⟨#[e0, e1, e2, e3, x4, e5, e6, (.pointer (some ⟨cb, 0, none⟩)), e8, e9, e10, e11, e12, e13, e14, e15, e16, e17, e18, e19, e20, e21, e22, (.int .i64 (k : Int)), e24, (.pointer (some ⟨fbk, 0, none⟩)), (.int .i64 (N : Int)), (.slice (some ⟨ab, 0, none⟩) N N), e28, e29, (.slice (some ⟨wb, 0, none⟩) N N), x31, x32, x33, x34, x35, e36, x37, x38, e39, x40, x41, x42, x43, e44, e45, e46, e47, e48, e49, e50, e51, e52, e53, e54, e55, e56, e57, e58, e59, e60, e61, e62, e63, e64, e65, e66, e67, e68, e69, e70, e71, e72, e73, e74, e75, e76, e77, e78, e79, e80, e81, e82, e83, e84, e85, e86, e87, e88, e89, e90, e91, e92, e93, e94, e95, e96, e97, e98, e99, e100, e101, e102, e103, e104, e105, e106, e107, e108, e109, e110, e111, e112, e113, e114, e115, e116, e117, e118, e119, e120, e121, e122, e123, e124, e125, e126, e127, e128, e129, e130, e131, e132, e133, e134, e135, e136, e137, e138, e139, e140, e141, e142, e143, e144, e145, e146, e147, e148, e149, e150, e151, e152, e153, e154, e155, e156, e157, e158, e159, e160, e161, e162, e163, e164, e165, e166, e167, e168, e169, e170, e171, e172, e173, e174, e175, e176, e177, e178, e179, e180, e181, e182, e183, e184, e185, e186, e187, e188, e189, e190, e191, e192, e193, e194, e195, e196, e197, e198, e199, e200, e201, e202, e203, e204, e205, e206, e207, e208, e209, e210, e211, e212, e213, e214, e215, e216, e217, e218, e219, e220, e221, e222, e223, e224, e225, e226, e227, e228, e229, e230, e231, e232, e233, e234, e235, e236, e237, e238, e239, e240, e241, e242, e243, e244, e245, e246, e247, e248, e249, e250, e251, e252, e253, e254, e255, e256, e257, e258, e259, e260, e261, e262, e263, e264, e265, e266, e267, e268, e269, e270, e271, e272, e273, e274, e275, e276, e277, e278, e279, e280, e281, e282, e283, e284, e285, e286, e287, e288, e289, e290, e291, e292, e293, e294, e295, e296, e297, e298, e299, e300, e301, e302, e303, e304, e305, e306, e307, e308, e309, e310, e311, e312, e313, e314, e315, e316, e317, e318, e319, e320, e321, e322, e323, e324, e325, e326, e327, e328, e329, e330, e331, e332, e333, e334, e335, e336, e337, e338, e339, e340, e341, e342, e343, e344, e345, e346, e347, e348, e349, e350, e351, e352, e353, e354, e355, e356, e357, e358, e359, e360, e361, e362, e363, e364, e365, e366, e367, e368, e369, (.slice (some ⟨ug, 0, none⟩) U uc), (.int .i64 (U : Int)), x372, x373, x374, x375, x376, x377, x378, x379, x380, x381, x382, x383, x384, x385, x386, x387, x388, x389, x390, x391, x392, x393, x394, x395, x396, x397, x398, x399, x400, x401, x402, x403, x404, x405, x406, x407, x408, x409, x410, x411, x412, x413, x414, x415, x416, x417, x418, x419, x420, x421, x422, x423, x424, x425, x426, x427, x428, x429, x430, x431, x432, x433, x434, x435, x436, x437, x438, x439, x440, x441, x442, x443, x444, x445, x446, x447, x448, x449, x450, x451, x452, x453, x454, x455, x456, x457, x458, x459, x460, x461, x462, x463, x464, x465, x466, x467, x468, x469, x470, x471, x472, x473, x474, x475, x476, x477, x478, x479, x480, x481, x482, x483, x484, x485, x486, x487, x488, x489, x490, x491, x492, x493, x494, x495, x496, x497, x498, x499, x500, x501, x502, x503, x504, x505, x506, x507, x508, x509, x510, x511, e512, e513, e514, e515, e516, e517, e518, e519, e520, e521, e522, e523, e524, e525, e526, e527, e528, e529, e530, e531], []⟩ wr) :
    Code.wp Ybaz.prog (cB14 Ybaz.f5) Q ⟨#[e0, e1, e2, e3, e4, e5, e6, (.pointer (some ⟨cb, 0, none⟩)), e8, e9, e10, e11, e12, e13, e14, e15, e16, e17, e18, e19, e20, e21, e22, (.int .i64 (k : Int)), e24, (.pointer (some ⟨fbk, 0, none⟩)), (.int .i64 (N : Int)), (.slice (some ⟨ab, 0, none⟩) N N), e28, e29, (.slice (some ⟨wb, 0, none⟩) N N), e31, e32, e33, e34, e35, e36, e37, e38, e39, e40, e41, e42, e43, e44, e45, e46, e47, e48, e49, e50, e51, e52, e53, e54, e55, e56, e57, e58, e59, e60, e61, e62, e63, e64, e65, e66, e67, e68, e69, e70, e71, e72, e73, e74, e75, e76, e77, e78, e79, e80, e81, e82, e83, e84, e85, e86, e87, e88, e89, e90, e91, e92, e93, e94, e95, e96, e97, e98, e99, e100, e101, e102, e103, e104, e105, e106, e107, e108, e109, e110, e111, e112, e113, e114, e115, e116, e117, e118, e119, e120, e121, e122, e123, e124, e125, e126, e127, e128, e129, e130, e131, e132, e133, e134, e135, e136, e137, e138, e139, e140, e141, e142, e143, e144, e145, e146, e147, e148, e149, e150, e151, e152, e153, e154, e155, e156, e157, e158, e159, e160, e161, e162, e163, e164, e165, e166, e167, e168, e169, e170, e171, e172, e173, e174, e175, e176, e177, e178, e179, e180, e181, e182, e183, e184, e185, e186, e187, e188, e189, e190, e191, e192, e193, e194, e195, e196, e197, e198, e199, e200, e201, e202, e203, e204, e205, e206, e207, e208, e209, e210, e211, e212, e213, e214, e215, e216, e217, e218, e219, e220, e221, e222, e223, e224, e225, e226, e227, e228, e229, e230, e231, e232, e233, e234, e235, e236, e237, e238, e239, e240, e241, e242, e243, e244, e245, e246, e247, e248, e249, e250, e251, e252, e253, e254, e255, e256, e257, e258, e259, e260, e261, e262, e263, e264, e265, e266, e267, e268, e269, e270, e271, e272, e273, e274, e275, e276, e277, e278, e279, e280, e281, e282, e283, e284, e285, e286, e287, e288, e289, e290, e291, e292, e293, e294, e295, e296, e297, e298, e299, e300, e301, e302, e303, e304, e305, e306, e307, e308, e309, e310, e311, e312, e313, e314, e315, e316, e317, e318, e319, e320, e321, e322, e323, e324, e325, e326, e327, e328, e329, e330, e331, e332, e333, e334, e335, e336, e337, e338, e339, e340, e341, e342, e343, e344, e345, e346, e347, e348, e349, e350, e351, e352, e353, e354, e355, e356, e357, e358, e359, e360, e361, e362, e363, e364, e365, e366, e367, e368, e369, (.slice (some ⟨ug, 0, none⟩) U uc), (.int .i64 (U : Int)), (.int .i64 0), e373, e374, e375, e376, e377, e378, e379, e380, e381, e382, e383, e384, e385, e386, e387, e388, e389, e390, e391, e392, e393, e394, e395, e396, e397, e398, e399, e400, e401, e402, e403, e404, e405, e406, e407, e408, e409, e410, e411, e412, e413, e414, e415, e416, e417, e418, e419, e420, e421, e422, e423, e424, e425, e426, e427, e428, e429, e430, e431, e432, e433, e434, e435, e436, e437, e438, e439, e440, e441, e442, e443, e444, e445, e446, e447, e448, e449, e450, e451, e452, e453, e454, e455, e456, e457, e458, e459, e460, e461, e462, e463, e464, e465, e466, e467, e468, e469, e470, e471, e472, e473, e474, e475, e476, e477, e478, e479, e480, e481, e482, e483, e484, e485, e486, e487, e488, e489, e490, e491, e492, e493, e494, e495, e496, e497, e498, e499, e500, e501, e502, e503, e504, e505, e506, e507, e508, e509, e510, e511, e512, e513, e514, e515, e516, e517, e518, e519, e520, e521, e522, e523, e524, e525, e526, e527, e528, e529, e530, e531], []⟩ w0 := by
  conv => arg 2; whnf
  try dsimp only
  have hU := h.hU
  have H := hid h; have HQ := hid hQ
  have hab : ab ≠ wb := fun e => by
    obtain ⟨c, h1, _⟩ := h.ask
    obtain ⟨c', h2, _⟩ := h.memb
    rw [e, h2] at h1; simp at h1
  have habl : ab < w0.heap.size := by obtain ⟨c, h1, _⟩ := h.ask; exact heap_lt h1
  clear h hQ
  go_wp2
  go_loopw [372] (fun vi wr => ∃ (i : Nat) (Mm : Nat → Prop), i ≤ U ∧ vi = .int .i64 i ∧ MembAt D uL wb N (mOf D uL i) Mm wr ∧ (∀ b, Mm b → w0.heap.size ≤ b ∧ b < wr.heap.size) ∧ KeepOff (fun b => b = wb) w0 wr) (fun vi _ => U - (intOf vi).toNat)
  case atStart => exact ⟨0, fun _ => False, by omega, rfl, H.out.memb, fun b hb => hb.elim, KeepOff.refl _ _⟩
  case round =>
    generalize wr = wq at *
    obtain ⟨i, Mm, hi, rfl, hM, hMb, hK⟩ := hrel
    have HM := hid hM; have HMb := hid hMb; have HK := hid hK
    by_cases hiU : i < U
    · have hii : (i : Int) < (U : Int) := by omega
      obtain ⟨u, hu⟩ : ∃ u, uL[i]? = some u := ⟨_, List.getElem?_eq_getElem (by rw [H.out.hul]; exact hiU)⟩
      have hBB : Below B w0 wq := hK.below H.out.hB (fun b hb e => by have := H.out.wbB; omega)
      have hul0 := H.out.ucell i u hu
      have hul1 := World.block_lt_of_cell? _ _ hul0
      have hrd : Rd15 Bd B k N cb fbk ab wb pb ug U i D uL u T Mm wq := by
        refine ⟨H.out.hk, H.out.hN, H.out.hNn, H.out.sm, hiU, hU, hu, H.out.us u (List.mem_of_getElem? hu), (cell_eq (hK.block ug hul1 H.out.uwb) _).trans hul0, H.out.bdB, Nat.le_trans H.out.hB hK.size, H.out.wbB, H.out.file.below (hBB.mono H.out.bdB), H.out.ask.move (hK.block ab habl hab), hM, fun b hb => ?_, (hBB.cell (p := ⟨cb, 5 + k, none⟩) H.out.cbB).trans H.out.cb5, H.out.cbB, H.out.pbB, H.out.tB, H.out.prin.keep (hBB.block pb H.out.pbB) (fun b hb => hBB.block b (H.out.tB b hb)) (fun b hb => hb) (hBB.mono H.out.bdB)⟩
        have := hMb b hb
        have := H.out.hB
        exact ⟨by omega, by omega, by omega⟩
      have Hrd := hid hrd
      clear hM hMb hK hrd hBB hul0 hul1 hu
      go_upto_block 15 with fail
      refine hB15 _ Bd B k N cb fbk ab wb pb ug U uc i D uL u T Mm wq Hrd.out ?_
      rintro y4 y31 y32 y33 y34 y35 y37 y38 y40 y41 y42 y43 y374 y375 y376 y377 y378 y379 y380 y381 y382 y383 y384 y385 y386 y387 y388 y389 y390 y391 y392 y393 y394 y395 y396 y397 y398 y399 y400 y401 y402 y403 y404 y405 y406 y407 y408 y409 y410 y411 y412 y413 y414 y415 y416 y417 y418 y419 y420 y421 y422 y423 y424 y425 y426 y427 y428 y429 y430 y431 y432 y433 y434 y435 y436 y437 y438 y439 y440 y441 y442 y443 y444 y445 y446 y447 y448 y449 y450 y451 y452 y453 y454 y455 y456 y457 y458 y459 y460 y461 y462 y463 y464 y465 y466 y467 y468 y469 y470 y471 y472 y473 y474 y475 y476 y477 y478 y479 y480 y481 y482 y483 y484 y485 y486 y487 y488 y489 y490 y491 y492 y493 y494 y495 y496 y497 y498 y499 y500 y501 y502 y503 y504 y505 y506 y507 y508 y509 y510 wz ⟨M8, hm, hb8, hk8⟩
      have hfin : ∃ (i' : Nat) (Mm : Nat → Prop), i' ≤ U ∧ Value.int .i64 ((i : Int) + 1) = .int .i64 i' ∧ MembAt D uL wb N (mOf D uL i') Mm wz ∧ (∀ b, Mm b → w0.heap.size ≤ b ∧ b < wz.heap.size) ∧ KeepOff (fun b => b = wb) w0 wz := by
        have hs := HK.out.size
        have hs2 := hk8.size
        refine ⟨i + 1, M8, by omega, by go_num, hm, fun b hb => ?_, HK.out.trans hk8 (fun b hb e => ?_)⟩
        · rcases hb8 b hb with h | h
          · have := HMb.out b h; omega
          · omega
        · rcases e with e | e
          · exact e
          · have := HMb.out b e; omega
      have HFin := hid hfin
      clear hm hb8 hk8 hfin
      go_wp2
      go_roundw
      case rel => exact HFin.out
      case measure => simp [intOf] <;> omega
    · have hii : ¬ (i : Int) < (U : Int) := by omega
      obtain rfl : i = U := by omega
      clear hM hMb hK
      go_wp2
      exact HQ.out _ _ _ _ _ _ _ _ _ _ _ _ _ _ _ _ _ _ _ _ _ _ _ _ _ _ _ _ _ _ _ _ _ _ _ _ _ _ _ _ _ _ _ _ _ _ _ _ _ _ _ _ _ _ _ _ _ _ _ _ _ _ _ _ _ _ _ _ _ _ _ _ _ _ _ _ _ _ _ _ _ _ _ _ _ _ _ _ _ _ _ _ _ _ _ _ _ _ _ _ _ _ _ _ _ _ _ _ _ _ _ _ _ _ _ _ _ _ _ _ _ _ _ _ _ _ _ _ _ _ _ _ _ _ _ _ _ _ _ _ _ _ _ _ _ _ _ _ _ _ _ _ wq ⟨Mm, HM.out, HMb.out, HK.out⟩
end Go.Proofs.YbulkchuuGreatDoor
