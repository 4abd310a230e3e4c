import Derived.Test.YbulkchuuGreatDoorHB16
import Derived.Test.YbulkchuuGreatDoorHB18
import Derived.Test.YbulkchuuGreatDoorHB22
import Derived.Test.YbulkchuuGreatDoorHB24
namespace Go.Proofs.YbulkchuuGreatDoor
open Go.RowKit Go.Maps Classical
set_option linter.unusedVariables false
set_option linter.unusedSimpArgs false
set_option maxRecDepth 100000

/-- what a user's round reads -/
structure Rd15 (Bd B k N cb fbk ab wb pb ug U i : Nat) (D : DIn) (uL : List ByteArray) (u : ByteArray) (T Mm : Nat → Prop) (w0 : World) : Prop where
  hk : k < 2
  hN : N ≤ 255
  hNn : D.n = (N : Int)
  sm : Small D
  hi : i < U
  hU : U ≤ 900000
  hu : uL[i]? = some u
  us : u.size ≤ 140737488355328
  ucell : w0.cell? ⟨ug, i, none⟩ = some (.string u)
  bdB : Bd ≤ B
  hB : B ≤ w0.heap.size
  wbB : B ≤ wb
  file : FileAt Bd fbk D (listOf D) (withinOf D) w0
  ask : AskAt ab N (askB D) w0
  memb : MembAt D uL wb N (mOf D uL i) Mm w0
  mB : ∀ b, Mm b → B ≤ b ∧ b < w0.heap.size ∧ b ≠ ab
  cb5 : w0.cell? ⟨cb, 5 + k, none⟩ = some (.slice (some ⟨pb, 0, none⟩) U U)
  cbB : cb < B
  pbB : pb < B
  tB : ∀ b, T b → b < B
  prin : PrinAt Bd fbk D uL U pb U T w0
theorem fr_below {w15 w17 : World} {r B : Nat} (h : Fr (fun b => b = r) w15 w17) (hr : B ≤ r) (hB : B ≤ w15.heap.size) : Below B w15 w17 := h.below hB (fun b hb e => by omega)
set_option maxHeartbeats 64000000 in
theorem hB15 {e0 e1 e2 e3 e4 e5 e6 e8 e9 e10 e11 e12 e13 e14 e15 e16 e17 e18 e19 e20 e21 e22 e24 e28 e29 e31 e32 e33 e34 e35 e36 e37 e38 e39 e40 e41 e42 e43 e44 e45 e46 e47 e48 e49 e50 e51 e52 e53 e54 e55 e56 e57 e58 e59 e60 e61 e62 e63 e64 e65 e66 e67 e68 e69 e70 e71 e72 e73 e74 e75 e76 e77 e78 e79 e80 e81 e82 e83 e84 e85 e86 e87 e88 e89 e90 e91 e92 e93 e94 e95 e96 e97 e98 e99 e100 e101 e102 e103 e104 e105 e106 e107 e108 e109 e110 e111 e112 e113 e114 e115 e116 e117 e118 e119 e120 e121 e122 e123 e124 e125 e126 e127 e128 e129 e130 e131 e132 e133 e134 e135 e136 e137 e138 e139 e140 e141 e142 e143 e144 e145 e146 e147 e148 e149 e150 e151 e152 e153 e154 e155 e156 e157 e158 e159 e160 e161 e162 e163 e164 e165 e166 e167 e168 e169 e170 e171 e172 e173 e174 e175 e176 e177 e178 e179 e180 e181 e182 e183 e184 e185 e186 e187 e188 e189 e190 e191 e192 e193 e194 e195 e196 e197 e198 e199 e200 e201 e202 e203 e204 e205 e206 e207 e208 e209 e210 e211 e212 e213 e214 e215 e216 e217 e218 e219 e220 e221 e222 e223 e224 e225 e226 e227 e228 e229 e230 e231 e232 e233 e234 e235 e236 e237 e238 e239 e240 e241 e242 e243 e244 e245 e246 e247 e248 e249 e250 e251 e252 e253 e254 e255 e256 e257 e258 e259 e260 e261 e262 e263 e264 e265 e266 e267 e268 e269 e270 e271 e272 e273 e274 e275 e276 e277 e278 e279 e280 e281 e282 e283 e284 e285 e286 e287 e288 e289 e290 e291 e292 e293 e294 e295 e296 e297 e298 e299 e300 e301 e302 e303 e304 e305 e306 e307 e308 e309 e310 e311 e312 e313 e314 e315 e316 e317 e318 e319 e320 e321 e322 e323 e324 e325 e326 e327 e328 e329 e330 e331 e332 e333 e334 e335 e336 e337 e338 e339 e340 e341 e342 e343 e344 e345 e346 e347 e348 e349 e350 e351 e352 e353 e354 e355 e356 e357 e358 e359 e360 e361 e362 e363 e364 e365 e366 e367 e368 e369 e371 e373 e374 e375 e376 e377 e378 e379 e380 e381 e382 e383 e384 e385 e386 e387 e388 e389 e390 e391 e392 e393 e394 e395 e396 e397 e398 e399 e400 e401 e402 e403 e404 e405 e406 e407 e408 e409 e410 e411 e412 e413 e414 e415 e416 e417 e418 e419 e420 e421 e422 e423 e424 e425 e426 e427 e428 e429 e430 e431 e432 e433 e434 e435 e436 e437 e438 e439 e440 e441 e442 e443 e444 e445 e446 e447 e448 e449 e450 e451 e452 e453 e454 e455 e456 e457 e458 e459 e460 e461 e462 e463 e464 e465 e466 e467 e468 e469 e470 e471 e472 e473 e474 e475 e476 e477 e478 e479 e480 e481 e482 e483 e484 e485 e486 e487 e488 e489 e490 e491 e492 e493 e494 e495 e496 e497 e498 e499 e500 e501 e502 e503 e504 e505 e506 e507 e508 e509 e510 e511 e512 e513 e514 e515 e516 e517 e518 e519 e520 e521 e522 e523 e524 e525 e526 e527 e528 e529 e530 e531 : Value} (Q : Exit → Act → World → Prop) (Bd B k N cb fbk ab wb pb ug U uc i : Nat) (D : DIn) (uL : List ByteArray) (u : ByteArray) (T Mm : Nat → Prop) (w0 : World) (h : Rd15 Bd B k N cb fbk ab wb pb ug U i D uL u T Mm w0)
    (hQ : ∀ (x4 x31 x32 x33 x34 x35 x37 x38 x40 x41 x42 x43 x374 x375 x376 x377 x378 x379 x380 x381 x382 x383 x384 x385 x386 x387 x388 x389 x390 x391 x392 x393 x394 x395 x396 x397 x398 x399 x400 x401 x402 x403 x404 x405 x406 x407 x408 x409 x410 x411 x412 x413 x414 x415 x416 x417 x418 x419 x420 x421 x422 x423 x424 x425 x426 x427 x428 x429 x430 x431 x432 x433 x434 x435 x436 x437 x438 x439 x440 x441 x442 x443 x444 x445 x446 x447 x448 x449 x450 x451 x452 x453 x454 x455 x456 x457 x458 x459 x460 x461 x462 x463 x464 x465 x466 x467 x468 x469 x470 x471 x472 x473 x474 x475 x476 x477 x478 x479 x480 x481 x482 x483 x484 x485 x486 x487 x488 x489 x490 x491 x492 x493 x494 x495 x496 x497 x498 x499 x500 x501 x502 x503 x504 x505 x506 x507 x508 x509 x510 : Value) (wr : World), (∃ M8, MembAt D uL wb N (mOf D uL (i + 1)) M8 wr ∧ (∀ b, M8 b → Mm b ∨ (w0.heap.size ≤ b ∧ b < wr.heap.size)) ∧ KeepOff (fun b => b = wb ∨ Mm b) w0 wr) → Q .normal ⟨#[e0, e1, e2, e3, x4, e5, e6, (.pointer (some ⟨cb, 0, none⟩)), e8, e9, e10, e11, e12, e13, e14, e15, e16, e17, e18, e19, e20, e21, e22, (.int .i64 (k : Int)), e24, (.pointer (some ⟨fbk, 0, none⟩)), (.int .i64 (N : Int)), (.slice (some ⟨ab, 0, none⟩) N N), e28, e29, (.slice (some ⟨wb, 0, none⟩) N N), x31, x32, x33, x34, x35, e36, x37, x38, e39, x40, x41, x42, x43, e44, e45, e46, e47, e48, e49, e50, e51, e52, e53, e54, e55, e56, e57, e58, e59, e60, e61, e62, e63, e64, e65, e66, e67, e68, e69, e70, e71, e72, e73, e74, e75, e76, e77, e78, e79, e80, e81, e82, e83, e84, e85, e86, e87, e88, e89, e90, e91, e92, e93, e94, e95, e96, e97, e98, e99, e100, e101, e102, e103, e104, e105, e106, e107, e108, e109, e110, e111, e112, e113, e114, e115, e116, e117, e118, e119, e120, e121, e122, e123, e124, e125, e126, e127, e128, e129, e130, e131, e132, e133, e134, e135, e136, e137, e138, e139, e140, e141, e142, e143, e144, e145, e146, e147, e148, e149, e150, e151, e152, e153, e154, e155, e156, e157, e158, e159, e160, e161, e162, e163, e164, e165, e166, e167, e168, e169, e170, e171, e172, e173, e174, e175, e176, e177, e178, e179, e180, e181, e182, e183, e184, e185, e186, e187, e188, e189, e190, e191, e192, e193, e194, e195, e196, e197, e198, e199, e200, e201, e202, e203, e204, e205, e206, e207, e208, e209, e210, e211, e212, e213, e214, e215, e216, e217, e218, e219, e220, e221, e222, e223, e224, e225, e226, e227, e228, e229, e230, e231, e232, e233, e234, e235, e236, e237, e238, e239, e240, e241, e242, e243, e244, e245, e246, e247, e248, e249, e250, e251, e252, e253, e254, e255, e256, e257, e258, e259, e260, e261, e262, e263, e264, e265, e266, e267, e268, e269, e270, e271, e272, e273, e274, e275, e276, e277, e278, e279, e280, e281, e282, e283, e284, e285, e286, e287, e288, e289, e290, e291, e292, e293, e294, e295, e296, e297, e298, e299, e300, e301, e302, e303, e304, e305, e306, e307, e308, e309, e310, e311, e312, e313, e314, e315, e316, e317, e318, e319, e320, e321, e322, e323, e324, e325, e326, e327, e328, e329, e330, e331, e332, e333, e334, e335, e336, e337, e338, e339, e340, e341, e342, e343, e344, e345, e346, e347, e348, e349, e350, e351, e352, e353, e354, e355, e356, e357, e358, e359, e360, e361, e362, e363, e364, e365, e366, e367, e368, e369, (.slice (some ⟨ug, 0, none⟩) U uc), e371, (.int .i64 (i : Int)), e373, x374, x375, x376, x377, x378, x379, x380, x381, x382, x383, x384, x385, x386, x387, x388, x389, x390, x391, x392, x393, x394, x395, x396, x397, x398, x399, x400, x401, x402, x403, x404, x405, x406, x407, x408, x409, x410, x411, x412, x413, x414, x415, x416, x417, x418, x419, x420, x421, x422, x423, x424, x425, x426, x427, x428, x429, x430, x431, x432, x433, x434, x435, x436, x437, x438, x439, x440, x441, x442, x443, x444, x445, x446, x447, x448, x449, x450, x451, x452, x453, x454, x455, x456, x457, x458, x459, x460, x461, x462, x463, x464, x465, x466, x467, x468, x469, x470, x471, x472, x473, x474, x475, x476, x477, x478, x479, x480, x481, x482, x483, x484, x485, x486, x487, x488, x489, x490, x491, x492, x493, x494, x495, x496, x497, x498, x499, x500, x501, x502, x503, x504, x505, x506, x507, x508, x509, x510, e511, e512, e513, e514, e515, e516, e517, e518, e519, e520, e521, e522, e523, e524, e525, e526, e527, e528, e529, e530, e531], []⟩ wr) :
    Code.wp Ybaz.prog (cB15 Ybaz.f5) Q ⟨#[e0, e1, e2, e3, e4, e5, e6, (.pointer (some ⟨cb, 0, none⟩)), e8, e9, e10, e11, e12, e13, e14, e15, e16, e17, e18, e19, e20, e21, e22, (.int .i64 (k : Int)), e24, (.pointer (some ⟨fbk, 0, none⟩)), (.int .i64 (N : Int)), (.slice (some ⟨ab, 0, none⟩) N N), e28, e29, (.slice (some ⟨wb, 0, none⟩) N N), e31, e32, e33, e34, e35, e36, e37, e38, e39, e40, e41, e42, e43, e44, e45, e46, e47, e48, e49, e50, e51, e52, e53, e54, e55, e56, e57, e58, e59, e60, e61, e62, e63, e64, e65, e66, e67, e68, e69, e70, e71, e72, e73, e74, e75, e76, e77, e78, e79, e80, e81, e82, e83, e84, e85, e86, e87, e88, e89, e90, e91, e92, e93, e94, e95, e96, e97, e98, e99, e100, e101, e102, e103, e104, e105, e106, e107, e108, e109, e110, e111, e112, e113, e114, e115, e116, e117, e118, e119, e120, e121, e122, e123, e124, e125, e126, e127, e128, e129, e130, e131, e132, e133, e134, e135, e136, e137, e138, e139, e140, e141, e142, e143, e144, e145, e146, e147, e148, e149, e150, e151, e152, e153, e154, e155, e156, e157, e158, e159, e160, e161, e162, e163, e164, e165, e166, e167, e168, e169, e170, e171, e172, e173, e174, e175, e176, e177, e178, e179, e180, e181, e182, e183, e184, e185, e186, e187, e188, e189, e190, e191, e192, e193, e194, e195, e196, e197, e198, e199, e200, e201, e202, e203, e204, e205, e206, e207, e208, e209, e210, e211, e212, e213, e214, e215, e216, e217, e218, e219, e220, e221, e222, e223, e224, e225, e226, e227, e228, e229, e230, e231, e232, e233, e234, e235, e236, e237, e238, e239, e240, e241, e242, e243, e244, e245, e246, e247, e248, e249, e250, e251, e252, e253, e254, e255, e256, e257, e258, e259, e260, e261, e262, e263, e264, e265, e266, e267, e268, e269, e270, e271, e272, e273, e274, e275, e276, e277, e278, e279, e280, e281, e282, e283, e284, e285, e286, e287, e288, e289, e290, e291, e292, e293, e294, e295, e296, e297, e298, e299, e300, e301, e302, e303, e304, e305, e306, e307, e308, e309, e310, e311, e312, e313, e314, e315, e316, e317, e318, e319, e320, e321, e322, e323, e324, e325, e326, e327, e328, e329, e330, e331, e332, e333, e334, e335, e336, e337, e338, e339, e340, e341, e342, e343, e344, e345, e346, e347, e348, e349, e350, e351, e352, e353, e354, e355, e356, e357, e358, e359, e360, e361, e362, e363, e364, e365, e366, e367, e368, e369, (.slice (some ⟨ug, 0, none⟩) U uc), e371, (.int .i64 (i : Int)), e373, e374, e375, e376, e377, e378, e379, e380, e381, e382, e383, e384, e385, e386, e387, e388, e389, e390, e391, e392, e393, e394, e395, e396, e397, e398, e399, e400, e401, e402, e403, e404, e405, e406, e407, e408, e409, e410, e411, e412, e413, e414, e415, e416, e417, e418, e419, e420, e421, e422, e423, e424, e425, e426, e427, e428, e429, e430, e431, e432, e433, e434, e435, e436, e437, e438, e439, e440, e441, e442, e443, e444, e445, e446, e447, e448, e449, e450, e451, e452, e453, e454, e455, e456, e457, e458, e459, e460, e461, e462, e463, e464, e465, e466, e467, e468, e469, e470, e471, e472, e473, e474, e475, e476, e477, e478, e479, e480, e481, e482, e483, e484, e485, e486, e487, e488, e489, e490, e491, e492, e493, e494, e495, e496, e497, e498, e499, e500, e501, e502, e503, e504, e505, e506, e507, e508, e509, e510, e511, e512, e513, e514, e515, e516, e517, e518, e519, e520, e521, e522, e523, e524, e525, e526, e527, e528, e529, e530, e531], []⟩ w0 := by
  conv => arg 2; whnf
  have hk := h.hk; have hN := h.hN; have hi := h.hi; have hU := h.hU; have hus := h.us; have hu0 := h.ucell; have hB := h.hB; have hbdB := h.bdB; have hwbB := h.wbB; have hcbB := h.cbB; have hpbB := h.pbB
  have hki : (k : Int) < 2 := by omega
  have hii : (i : Int) < (U : Int) := by omega
  have H := hid h; have HQ := hid hQ
  obtain ⟨lmb, Dl, kk, hl5, hlB, hlo, hlk⟩ := h.file.listing
  obtain ⟨A, C, hat, hRd⟩ := hlk u (by unfold maxLen; omega)
  have hlook := look85 hlo (by unfold maxLen; omega) hat w0 rfl
  have hls := h.file.lsts u
  have hfl := h.file.lt
  obtain ⟨LL, hLL⟩ : ∃ x, (listOf D u).length = x := ⟨_, rfl⟩
  rw [hLL] at hlook hls
  have hll := hls.2
  have HIn := hid hls.1
  have HLL := hid hLL; have HRd := hid hRd
  have habl : ab < w0.heap.size := by obtain ⟨c, h1, _⟩ := h.ask; exact heap_lt h1
  have hwbl : wb < w0.heap.size := by obtain ⟨c, h1, _⟩ := h.memb; exact heap_lt h1
  have hNt : D.n.toNat = N := by have := h.hNn; omega
  have HNt := hid hNt
  clear h hQ hlk hat hlo hls hLL hRd hNt
  obtain ⟨i4, hi4, hz40, hz41, hz42⟩ := info_parts info4
  go_wp2_with (at_make; refine wpList_make_full _ rfl _ _ 84 rfl w0.heap.size 4 i4 (.bool false) 1 Ybaz.underlying84 hi4 hz40 hz41 _ _ _ _ N rfl rfl rfl rfl ?b1 ?b2 ?b3 ?_)
  case b1 => first | omega | (rw [hz42]; omega)
  case b2 => unfold maxLen; omega
  case b3 => first | exact Nat.le_refl _ | omega | simp
  intro w15 hown15 hg15
  obtain ⟨rbk, hrbk⟩ : ∃ x, w0.heap.size = x := ⟨_, rfl⟩
  have hAsk15 : AskAt rbk N (fun _ => false) w15 := by
    have : w15.ownsRow w0.heap.size 4 1 (.slice (some ⟨w0.heap.size, 0, none⟩) N N) N (madeCells #[.bool false] N).toList := by simpa [Value.cells] using hown15
    rw [hrbk] at this
    exact own_ask this
  have hrl : rbk < w15.heap.size := by obtain ⟨c, h1, _⟩ := hAsk15; exact heap_lt h1
  have hB15 : Below w0.heap.size w0 w15 := ⟨hg15.os, hg15.tape, hg15.output, hg15.size, fun b hb => hg15.block b hb (by simp)⟩
  have hRd15 : ReadI Bd A (listOf D u) w15 := HRd.out.below (hB15.mono (by omega))
  have hW15 : WithinAt Bd fbk N (withinOf D) w15 := by have := H.out.file.within.below (hB15.mono (by omega)); rw [HNt.out] at this; exact this
  have HRd15 := hid hRd15; have HW15 := hid hW15; have HB15 := hid hB15; have HAsk15 := hid hAsk15
  have HI15 := hid (show InG N (listOf D u) by have := HIn.out; rw [HNt.out] at this; exact this)
  have Hrbk := hid hrbk
  rw [hrbk] at hB habl hwbl ⊢
  clear hown15 hg15 hAsk15 hB15 hRd15 hW15 hrbk
  go_upto_block 16 with fail
  refine hB16 _ A C N rbk Bd LL (listOf D u) [] _ w15 w15 (by omega) hrl HRd15.out HI15.out HLL.out hll hN (ReachQ.start HAsk15.out) ?_
  intro y35 y37 y388 y389 y390 y391 y392 y393 y394 y395 y396 y397 y398 y399 y400 y401 y402 y403 y404 w16 h16
  have hbf : BF (listOf D u) (withinOf D) 0 (addL [] (listOf D u)) := by
    refine ⟨fun x hx => ?_, fun x hx => ?_, fun t g h => by omega⟩
    · rw [addL_mem]; exact .inr hx
    · rw [addL_mem] at hx
      rcases hx with h | h
      · simp at h
      · exact .base x h
  have H16 := hid h16; have Hbf := hid hbf
  clear h16 hbf
  go_upto_block 18 with fail
  refine hB18 _ N rbk Bd fbk (listOf D u) (addL [] (listOf D u)) (withinOf D) _ w15 w16 (by omega) hrl HW15.out hN H16.out Hbf.out ?_
  rintro z35 z38 z40 z405 z406 z407 z408 z409 z410 z411 z412 z413 z414 z415 z416 z417 z418 z419 z420 z421 z422 z423 z424 z425 z426 z427 z428 z429 z430 z431 z432 z433 z434 z435 z436 z437 z438 z439 w17 ⟨ql, hq, hrch⟩
  have hF17 := hq.2.2.1
  have hs17 := hF17.size
  have hs15 := HB15.out.size
  rw [Hrbk.out] at hs15
  have hB17 : Below rbk w0 w17 := by
    have h1 : Below rbk w15 w17 := fr_below hF17 (Nat.le_refl _) (by omega)
    have h2 := HB15.out
    rw [Hrbk.out] at h2
    exact h2.trans h1
  have hr17 : AskAt rbk N (fun g => decide ((g : Int) ∈ ql)) w17 := hq.2.1
  have ha17 : AskAt ab N (askB D) w17 := H.out.ask.move (hB17.block ab habl)
  have hm17 : MembAt D uL wb N (mOf D uL i) Mm w17 := H.out.memb.keep (hB17.block wb hwbl) (fun b hb => hB17.block b (by have := H.out.mB b hb; have := Hrbk.out; omega)) (fun b hb => hb)
  have HB17 := hid hB17; have Hr17 := hid hr17; have Ha17 := hid ha17; have Hm17 := hid hm17; have Hrch := hid hrch
  clear hq hF17 hB17 hr17 ha17 hm17 hrch
  go_upto_block 22 with fail
  refine hB22 _ N rbk ab wb i D uL u (fun g => decide ((g : Int) ∈ ql)) Mm w17 hN (by omega) H.out.hu HNt.out Hr17.out Ha17.out Hm17.out (fun b hb => by have hm := H.out.mB b hb; have := Hrbk.out; exact ⟨by omega, by omega, hm.2.2⟩) (fun g hg => ?_) ?_
  · unfold InGrp askB
    simp only [decide_eq_true_eq, Hrch.out]
    exact And.comm
  rintro t41 t42 t440 t441 t442 t443 t444 t445 t446 t447 t448 t449 t450 t451 t452 t453 t454 t455 t456 t457 t458 t459 t460 t461 t462 t463 t464 t465 t466 t467 t468 t469 t470 w18 ⟨M8, hgs, hm18, hMb, hK18⟩
  have hs18 := hK18.size
  have hB18 : Below B w17 w18 := hK18.below (by omega) (fun b hb e => by
    rcases e with e | e
    · omega
    · have := H.out.mB b e; omega)
  have hB018 : Below B w0 w18 := (HB17.out.mono hB).trans hB18
  have c5 : w18.cell? ⟨cb, 5 + k, none⟩ = some (.slice (some ⟨pb, 0, none⟩) U U) := (hB018.cell (p := ⟨cb, 5 + k, none⟩) hcbB).trans H.out.cb5
  have hp18 : PrinAt Bd fbk D uL U pb U T w18 := H.out.prin.keep (hB018.block pb hpbB) (fun b hb => hB018.block b (H.out.tB b hb)) (fun b hb => hb) (hB018.mono hbdB)
  obtain ⟨cur, hc1, hc2, hc3⟩ := hp18
  obtain ⟨PA, PC, gv, p0, p1, p2, p3, p4, p5, p6, p7⟩ := hc3 i u hi H.out.hu
  obtain ⟨pga, pgc, rfl⟩ := own_slice' p7.1
  obtain ⟨gsa, gsc, rfl⟩ := own_slice' hgs
  have hgl : (grpOf D u).length ≤ 255 := by
    have h1 := grpTo_len D u D.n.toNat
    rw [grpTo_all, HNt.out] at h1
    omega
  rw [← cell_of hc1] at p0 p1 p2 p3 p4 p5
  have hLL' := HLL.out
  rw [hLL'] at p1
  obtain ⟨GL, hGL⟩ : ∃ x, (grpOf D u).length = x := ⟨_, rfl⟩
  obtain ⟨w19, hw19⟩ : ∃ x, w18.alloc (.cells #[.string u, .slice PA LL PC, .pointer (some ⟨fbk, 5, none⟩), .slice pga GL pgc, .bool true, .slice none 0 0] 109) = x := ⟨_, rfl⟩
  have hb19 : w19.heap[w18.heap.size]? = some (.cells #[.string u, .slice PA LL PC, .pointer (some ⟨fbk, 5, none⟩), .slice pga GL pgc, .bool true, .slice none 0 0] 109 (0, 0)) := by rw [← hw19]; exact heap_alloc_new _ _
  have hB19 : Below w18.heap.size w18 w19 := by rw [← hw19]; exact (Below.refl _ w18).alloc (Nat.le_refl _) _
  have q0 : w19.cell? ⟨w18.heap.size, 0, none⟩ = some (.string u) := by rw [cell_of hb19]; rfl
  have q1 : w19.cell? ⟨w18.heap.size, 1, none⟩ = some (.slice PA LL PC) := by rw [cell_of hb19]; rfl
  have q2 : w19.cell? ⟨w18.heap.size, 2, none⟩ = some (.pointer (some ⟨fbk, 5, none⟩)) := by rw [cell_of hb19]; rfl
  have q3 : w19.cell? ⟨w18.heap.size, 3, none⟩ = some (.slice pga GL pgc) := by rw [cell_of hb19]; rfl
  have q4 : w19.cell? ⟨w18.heap.size, 4, none⟩ = some (.bool true) := by rw [cell_of hb19]; rfl
  have hB0_19 : Below B w0 w19 := hB018.trans (hB19.mono (by omega))
  have hread : ∀ {a : Option Addr} {W : World}, ReadI Bd a (listOf D u) W → RowR a (I32s (listOf D u)) W := fun hR j v hj => by
    rw [I32s, List.getElem?_map] at hj
    cases hx : (listOf D u)[j]? with
    | none => rw [hx] at hj; simp at hj
    | some x =>
      rw [hx] at hj
      simp at hj
      obtain ⟨bb, off, e, _, h2⟩ := hR j x hx
      exact ⟨bb, off, e, by rw [← hj]; exact h2⟩
  have e1 : RowR PA (I32s (listOf D u)) w19 := hread (p6.below (hB19.mono (by omega)))
  have e2 : RowR A (I32s (listOf D u)) w19 := hread (HRd.out.below (hB0_19.mono hbdB))
  have e3 : RowR pga (I32s (grpOf D u)) w19 := own_rowR (own_move p7.1 (fun b hb hl => hB19.block b hl))
  have e4 : RowR gsa (I32s (grpOf D u)) w19 := own_rowR (own_move hgs (fun b hb hl => hB19.block b hl))
  have hE1 : ∀ n, Calls Ybaz.prog 18 #[.slice PA LL PC, .slice A LL C] (w19.drewN n) (fun e w' => e = .returned (.bool true) ∧ ∃ m, w' = (w19.drewN n).drewN m) := fun n => by
    have := equal18 PA A PC C (listOf D u) (listOf D u) (w19.drewN n) (e1.drewN n) (e2.drewN n) (by rw [hLL']; omega) (by rw [hLL']; omega)
    rw [hLL'] at this
    refine this.mono ?_
    rintro e w' ⟨rfl, h⟩
    exact ⟨by simp, h⟩
  have hE2 : ∀ n, Calls Ybaz.prog 18 #[.slice pga GL pgc, .slice gsa GL gsc] (w19.drewN n) (fun e w' => e = .returned (.bool true) ∧ ∃ m, w' = (w19.drewN n).drewN m) := fun n => by
    have := equal18 pga gsa pgc gsc (grpOf D u) (grpOf D u) (w19.drewN n) (e3.drewN n) (e4.drewN n) (by omega) (by omega)
    rw [hGL] at this
    refine this.mono ?_
    rintro e w' ⟨rfl, h⟩
    exact ⟨by simp, h⟩
  have hpn := fun W => ptr_ne107 ⟨fbk, 5, none⟩ W
  rw [hGL] at p3 hgl ⊢
  have hKK : KeepOff (fun b => b = wb ∨ Mm b) w0 w19 := by
    have h1 : KeepOff (fun b => b = wb ∨ Mm b) w0 w17 := KeepOff.of_below (by rw [Hrbk.out]; exact HB17.out)
    exact (h1.trans hK18 (fun b _ e => e)).trans (KeepOff.of_below (S := fun b => b = wb ∨ Mm b) hB19) (fun b _ e => e)
  have hMf : MembAt D uL wb N (mOf D uL (i + 1)) M8 w19 := hm18.keep (hB19.block wb (by obtain ⟨c, h1, _⟩ := hm18; exact heap_lt h1)) (fun b hb => hB19.block b (by have := Hrbk.out; rcases hMb b hb with h | h; have := H.out.mB b h; omega; omega)) (fun b hb => hb)
  have hM8f : ∀ b, M8 b → Mm b ∨ (w0.heap.size ≤ b ∧ b < w19.heap.size) := fun b hb => by
    have := hB19.size
    rcases hMb b hb with h | h
    · exact .inl h
    · right; have := Hrbk.out; omega
  have HFin := hid (show ∃ M8, MembAt D uL wb N (mOf D uL (i + 1)) M8 w19 ∧ (∀ b, M8 b → Mm b ∨ (w0.heap.size ≤ b ∧ b < w19.heap.size)) ∧ KeepOff (fun b => b = wb ∨ Mm b) w0 w19 from ⟨M8, hMf, hM8f, hKK⟩)
  have HE1 := hid hE1; have HE2 := hid hE2; have Hw19 := hid hw19
  clear hE1 hE2 hw19 hKK hMf hM8f hB19 hB0_19 hread e1 e2 e3 e4 hb19 hm18 hMb hK18 hgs hB18 hB018 hc1 hc2 hc3 p6 p7 hLL' hGL
  go_upto_region 108 with fail
  rw [Hw19.out]
  refine wp_region_quiet_lit (by kernel_rfl) (by kernel_rfl) ?_
  iterate 21 (go_big_quiet_step (fail))
  go_big_quiet_step (exact Calls.quiet_of (HE1.out _))
  iterate 6 (go_big_quiet_step (fail))
  go_big_quiet_step (exact Calls.quiet_of (HE2.out _))
  repeat (go_big_quiet_step (fail))
  refine wpQuiet_nil ?_
  intro _ hw'
  obtain ⟨nq, hw''⟩ := hw'
  subst hw''
  go_wp2
  exact HQ.out _ _ _ _ _ _ _ _ _ _ _ _ _ _ _ _ _ _ _ _ _ _ _ _ _ _ _ _ _ _ _ _ _ _ _ _ _ _ _ _ _ _ _ _ _ _ _ _ _ _ _ _ _ _ _ _ _ _ _ _ _ _ _ _ _ _ _ _ _ _ _ _ _ _ _ _ _ _ _ _ _ _ _ _ _ _ _ _ _ _ _ _ _ _ _ _ _ _ _ _ _ _ _ _ _ _ _ _ _ _ _ _ _ _ _ _ _ _ _ _ _ _ _ _ _ _ _ _ _ _ _ _ _ _ _ _ _ _ _ _ _ _ _ _ _ _ _ _ _ (w19.drewN nq) HFin.out
end Go.Proofs.YbulkchuuGreatDoor
