import Derived.Test.YbulkchuuGreatDoorV2
namespace Go.Proofs.YbulkchuuGreatDoor
open Go.RowKit Go.Maps
set_option linter.unusedVariables false
set_option linter.unusedSimpArgs false
set_option maxRecDepth 100000

set_option maxHeartbeats 32000000 in
theorem hB4 {e0 e1 e2 e3 e4 e5 e6 e7 e8 e9 e10 e11 e12 e14 e15 e16 e17 e18 e19 e20 e21 e22 e23 e24 e25 e26 e27 e28 e29 e30 e31 e32 e33 e34 e35 e36 e37 e38 e39 e40 e41 e42 e43 e44 e45 e46 e47 e48 e49 e50 e51 e52 e53 e54 e55 e56 e57 e58 e59 e60 e61 e62 e63 e64 e65 e66 e67 e68 e69 e70 e71 e72 e73 e74 e75 e76 e77 e78 e79 e80 e81 e82 e83 e84 e85 e86 e87 e88 e89 e90 e91 e92 e93 e94 e95 e96 e97 e98 e99 e100 e101 e102 e103 e104 e105 e106 e107 e108 e109 e110 e111 e112 e113 e114 e115 e116 e117 e118 e119 e120 e121 e122 e123 e124 e125 e126 e127 e128 e129 e130 e131 e132 e133 e137 e138 e139 e140 e141 e142 e143 e144 e145 e146 e147 e148 e149 e150 e151 e152 e153 e154 e155 e156 e157 e158 e159 e160 e161 e162 e163 e164 e165 e166 e167 e168 e169 e170 e171 e172 e173 e174 e175 e176 e177 e178 e179 e180 e181 e182 e183 e184 e185 e186 e187 e188 e189 e190 e191 e192 e193 e194 e195 e196 e197 e198 e199 e200 e201 e202 e203 e204 e205 e206 e207 e208 e209 e210 e211 e212 e213 e214 e215 e216 e217 e218 e219 e220 e221 e222 e223 e224 e225 e226 e227 e228 e229 e230 e231 e232 e233 e234 e235 e236 e237 e238 e239 e240 e241 e242 e243 e244 e245 e246 e247 e248 e249 e250 e251 e252 e253 e254 e255 e256 e257 e258 e259 e260 e261 e262 e263 e264 e265 e266 e267 e268 e269 e270 e271 e272 e273 e274 e275 e276 e277 e278 e279 e280 e281 e282 e283 e284 e285 e286 e287 e288 e289 e290 e291 e292 e293 e294 e295 e296 e297 e298 e299 e300 e301 e302 e303 e304 e305 e306 e307 e308 e309 e310 e311 e312 e313 e314 e315 e316 e317 e318 e319 e320 e321 e322 e323 e324 e325 e326 e327 e328 e329 e330 e331 e332 e333 e334 e335 e336 e337 e338 e339 e340 e341 e342 e343 e344 e345 e346 e347 e348 e349 e350 e351 e352 e353 e354 e355 e356 e357 e358 e359 e360 e361 e362 e363 e364 e365 e366 e367 e368 e369 e370 e371 e372 e373 e374 e375 e376 e377 e378 e379 e380 e381 e382 e383 e384 e385 e386 e387 e388 e389 e390 e391 e392 e393 e394 e395 e396 e397 e398 e399 e400 e401 e402 e403 e404 e405 e406 e407 e408 e409 e410 e411 e412 e413 e414 e415 e416 e417 e418 e419 e420 e421 e422 e423 e424 e425 e426 e427 e428 e429 e430 e431 e432 e433 e434 e435 e436 e437 e438 e439 e440 e441 e442 e443 e444 e445 e446 e447 e448 e449 e450 e451 e452 e453 e454 e455 e456 e457 e458 e459 e460 e461 e462 e463 e464 e465 e466 e467 e468 e469 e470 e471 e472 e473 e474 e475 e476 e477 e478 e479 e480 e481 e482 e483 e484 e485 e486 e487 e488 e489 e490 e491 e492 e493 e494 e495 e496 e497 e498 e499 e500 e501 e502 e503 e504 e505 e506 e507 e508 e509 e510 e511 e512 e513 e514 e515 e516 e517 e518 e519 e520 e521 e522 e523 e524 e525 e526 e527 e528 e529 e530 e531 : Value} (Q : Exit → Act → World → Prop) (M B sc lg : Nat) (sa : Option Addr) (zs : List (List UInt8)) (w0 : World) (hM : zs.length = M) (hM6 : M ≤ 600000) (hrow : w0.ownsRow B 9 1 (.slice sa M sc) M (zs.map encStr)) (hlg : lg ≤ 140737488351232) (h1 : ∀ x ∈ zs, x.length ≤ lg) (h2 : lg = 0 ∨ ∃ x ∈ zs, x.length = lg)
    (hQ : ∀ (x15 x136 x137 x138 x139 x140 x141 x142 x143 x144 x145 x146 : Value), Q .normal ⟨#[e0, e1, e2, e3, e4, e5, e6, e7, e8, e9, e10, e11, e12, (.int .i64 (lg : Int)), e14, x15, e16, e17, e18, e19, e20, e21, e22, e23, e24, e25, e26, e27, e28, e29, e30, e31, e32, e33, e34, e35, e36, e37, e38, e39, e40, e41, e42, e43, e44, e45, e46, e47, e48, e49, e50, e51, e52, e53, e54, e55, e56, e57, e58, e59, e60, e61, e62, e63, e64, e65, e66, e67, e68, e69, e70, e71, e72, e73, e74, e75, e76, e77, e78, e79, e80, e81, e82, e83, e84, e85, e86, e87, e88, e89, e90, e91, e92, e93, e94, e95, e96, e97, e98, e99, e100, e101, e102, e103, e104, e105, e106, e107, e108, e109, e110, e111, e112, e113, e114, e115, e116, e117, e118, e119, e120, e121, e122, e123, e124, e125, e126, e127, e128, e129, e130, e131, e132, e133, (.slice sa M sc), (.int .i64 (M : Int)), x136, x137, x138, x139, x140, x141, x142, x143, x144, x145, x146, e147, e148, e149, e150, e151, e152, e153, e154, e155, e156, e157, e158, e159, e160, e161, e162, e163, e164, e165, e166, e167, e168, e169, e170, e171, e172, e173, e174, e175, e176, e177, e178, e179, e180, e181, e182, e183, e184, e185, e186, e187, e188, e189, e190, e191, e192, e193, e194, e195, e196, e197, e198, e199, e200, e201, e202, e203, e204, e205, e206, e207, e208, e209, e210, e211, e212, e213, e214, e215, e216, e217, e218, e219, e220, e221, e222, e223, e224, e225, e226, e227, e228, e229, e230, e231, e232, e233, e234, e235, e236, e237, e238, e239, e240, e241, e242, e243, e244, e245, e246, e247, e248, e249, e250, e251, e252, e253, e254, e255, e256, e257, e258, e259, e260, e261, e262, e263, e264, e265, e266, e267, e268, e269, e270, e271, e272, e273, e274, e275, e276, e277, e278, e279, e280, e281, e282, e283, e284, e285, e286, e287, e288, e289, e290, e291, e292, e293, e294, e295, e296, e297, e298, e299, e300, e301, e302, e303, e304, e305, e306, e307, e308, e309, e310, e311, e312, e313, e314, e315, e316, e317, e318, e319, e320, e321, e322, e323, e324, e325, e326, e327, e328, e329, e330, e331, e332, e333, e334, e335, e336, e337, e338, e339, e340, e341, e342, e343, e344, e345, e346, e347, e348, e349, e350, e351, e352, e353, e354, e355, e356, e357, e358, e359, e360, e361, e362, e363, e364, e365, e366, e367, e368, e369, e370, e371, e372, e373, e374, e375, e376, e377, e378, e379, e380, e381, e382, e383, e384, e385, e386, e387, e388, e389, e390, e391, e392, e393, e394, e395, e396, e397, e398, e399, e400, e401, e402, e403, e404, e405, e406, e407, e408, e409, e410, e411, e412, e413, e414, e415, e416, e417, e418, e419, e420, e421, e422, e423, e424, e425, e426, e427, e428, e429, e430, e431, e432, e433, e434, e435, e436, e437, e438, e439, e440, e441, e442, e443, e444, e445, e446, e447, e448, e449, e450, e451, e452, e453, e454, e455, e456, e457, e458, e459, e460, e461, e462, e463, e464, e465, e466, e467, e468, e469, e470, e471, e472, e473, e474, e475, e476, e477, e478, e479, e480, e481, e482, e483, e484, e485, e486, e487, e488, e489, e490, e491, e492, e493, e494, e495, e496, e497, e498, e499, e500, e501, e502, e503, e504, e505, e506, e507, e508, e509, e510, e511, e512, e513, e514, e515, e516, e517, e518, e519, e520, e521, e522, e523, e524, e525, e526, e527, e528, e529, e530, e531], []⟩ w0) :
    Code.wp Ybaz.prog (cB4 Ybaz.f5) Q ⟨#[e0, e1, e2, e3, e4, e5, e6, e7, e8, e9, e10, e11, e12, (.int .i64 0), e14, e15, e16, e17, e18, e19, e20, e21, e22, e23, e24, e25, e26, e27, e28, e29, e30, e31, e32, e33, e34, e35, e36, e37, e38, e39, e40, e41, e42, e43, e44, e45, e46, e47, e48, e49, e50, e51, e52, e53, e54, e55, e56, e57, e58, e59, e60, e61, e62, e63, e64, e65, e66, e67, e68, e69, e70, e71, e72, e73, e74, e75, e76, e77, e78, e79, e80, e81, e82, e83, e84, e85, e86, e87, e88, e89, e90, e91, e92, e93, e94, e95, e96, e97, e98, e99, e100, e101, e102, e103, e104, e105, e106, e107, e108, e109, e110, e111, e112, e113, e114, e115, e116, e117, e118, e119, e120, e121, e122, e123, e124, e125, e126, e127, e128, e129, e130, e131, e132, e133, (.slice sa M sc), (.int .i64 (M : Int)), (.int .i64 0), e137, e138, e139, e140, e141, e142, e143, e144, e145, e146, e147, e148, e149, e150, e151, e152, e153, e154, e155, e156, e157, e158, e159, e160, e161, e162, e163, e164, e165, e166, e167, e168, e169, e170, e171, e172, e173, e174, e175, e176, e177, e178, e179, e180, e181, e182, e183, e184, e185, e186, e187, e188, e189, e190, e191, e192, e193, e194, e195, e196, e197, e198, e199, e200, e201, e202, e203, e204, e205, e206, e207, e208, e209, e210, e211, e212, e213, e214, e215, e216, e217, e218, e219, e220, e221, e222, e223, e224, e225, e226, e227, e228, e229, e230, e231, e232, e233, e234, e235, e236, e237, e238, e239, e240, e241, e242, e243, e244, e245, e246, e247, e248, e249, e250, e251, e252, e253, e254, e255, e256, e257, e258, e259, e260, e261, e262, e263, e264, e265, e266, e267, e268, e269, e270, e271, e272, e273, e274, e275, e276, e277, e278, e279, e280, e281, e282, e283, e284, e285, e286, e287, e288, e289, e290, e291, e292, e293, e294, e295, e296, e297, e298, e299, e300, e301, e302, e303, e304, e305, e306, e307, e308, e309, e310, e311, e312, e313, e314, e315, e316, e317, e318, e319, e320, e321, e322, e323, e324, e325, e326, e327, e328, e329, e330, e331, e332, e333, e334, e335, e336, e337, e338, e339, e340, e341, e342, e343, e344, e345, e346, e347, e348, e349, e350, e351, e352, e353, e354, e355, e356, e357, e358, e359, e360, e361, e362, e363, e364, e365, e366, e367, e368, e369, e370, e371, e372, e373, e374, e375, e376, e377, e378, e379, e380, e381, e382, e383, e384, e385, e386, e387, e388, e389, e390, e391, e392, e393, e394, e395, e396, e397, e398, e399, e400, e401, e402, e403, e404, e405, e406, e407, e408, e409, e410, e411, e412, e413, e414, e415, e416, e417, e418, e419, e420, e421, e422, e423, e424, e425, e426, e427, e428, e429, e430, e431, e432, e433, e434, e435, e436, e437, e438, e439, e440, e441, e442, e443, e444, e445, e446, e447, e448, e449, e450, e451, e452, e453, e454, e455, e456, e457, e458, e459, e460, e461, e462, e463, e464, e465, e466, e467, e468, e469, e470, e471, e472, e473, e474, e475, e476, e477, e478, e479, e480, e481, e482, e483, e484, e485, e486, e487, e488, e489, e490, e491, e492, e493, e494, e495, e496, e497, e498, e499, e500, e501, e502, e503, e504, e505, e506, e507, e508, e509, e510, e511, e512, e513, e514, e515, e516, e517, e518, e519, e520, e521, e522, e523, e524, e525, e526, e527, e528, e529, e530, e531], []⟩ w0 := by
  conv => arg 2; whnf
  try dsimp only
  have HM := hid hM; have Hrow2 := hid hrow; have H1 := hid h1; have H2 := hid h2; have HQ := hid hQ
  clear hM hrow h1 h2 hQ
  go_wp2
  go_loopw [13, 136] (fun vl vk wr => ∃ (k l : Nat), k ≤ M ∧ vl = .int .i64 l ∧ vk = .int .i64 k ∧ wr = w0 ∧ (∀ x ∈ zs.take k, x.length ≤ l) ∧ (l = 0 ∨ ∃ x ∈ zs.take k, x.length = l) ∧ l ≤ 140737488351232) (fun _ vk _ => M - (intOf vk).toNat)
  case atStart => exact ⟨0, 0, by omega, rfl, rfl, rfl, fun x hx => by simp at hx, .inl rfl, by omega⟩
  case round =>
    obtain ⟨k, l, hk, rfl, rfl, rfl, hl1, hl2, hl3⟩ := hrel
    have Hl1 := hid hl1; have Hl2 := hid hl2
    clear hl1 hl2
    by_cases hkM : k < M
    · have hki : (k : Int) < (M : Int) := by omega
      obtain ⟨x, hx⟩ : ∃ x, zs[k]? = some x := ⟨_, List.getElem?_eq_getElem (by rw [HM.out]; exact hkM)⟩
      have hxm := List.mem_of_getElem? hx
      have hxl : x.length ≤ 140737488351232 := Nat.le_trans (H1.out x hxm) hlg
      obtain ⟨gg, off, hga, hgc⟩ := own_rowR Hrow2.out k (encStr x) (by simp [hx])
      subst hga
      obtain ⟨u, hu⟩ : ∃ u : ByteArray, (⟨x.toArray⟩ : ByteArray) = u := ⟨_, rfl⟩
      have hgc' : wr.cell? ⟨gg, off + k, none⟩ = some (.string u) := by rw [← hu]; exact hgc
      obtain ⟨L, hL⟩ : ∃ L, u.size = L := ⟨_, rfl⟩
      have hLx : x.length = L := by rw [← hL, ← hu]; simp [ByteArray.size]
      have HLx := hid hLx; have Hx := hid hx
      have htk : zs.take (k + 1) = zs.take k ++ [x] := by rw [List.take_add_one, hx]; rfl
      have Htk := hid htk
      clear hgc hu hxm hx hLx htk
      by_cases hc : l < L
      · have hci : (l : Int) < (L : Int) := by omega
        go_wp2
        go_roundw
        case rel =>
          have hLL := HLx.out
          refine ⟨k + 1, L, by omega, rfl, by go_num, by first | rfl | trivial, fun y hy => ?_, .inr ⟨x, by rw [Htk.out]; simp, by omega⟩, by omega⟩
          rw [Htk.out] at hy
          rcases List.mem_append.1 hy with h | h
          · have := Hl1.out y h; omega
          · simp only [List.mem_singleton] at h; subst h; omega
        case measure => simp [intOf] <;> omega
      · have hci : ¬ (l : Int) < (L : Int) := by omega
        go_wp2
        go_roundw
        case rel =>
          have hLL := HLx.out
          refine ⟨k + 1, l, by omega, rfl, by go_num, by first | rfl | trivial, fun y hy => ?_, ?_, by omega⟩
          · rw [Htk.out] at hy
            rcases List.mem_append.1 hy with h | h
            · have := Hl1.out y h; omega
            · simp only [List.mem_singleton] at h; subst h; omega
          · rcases Hl2.out with h | ⟨y, h1, h2⟩
            · exact .inl h
            · exact .inr ⟨y, by rw [Htk.out]; exact List.mem_append_left _ h1, by omega⟩
        case measure => simp [intOf] <;> omega
    · have hki : ¬ (k : Int) < (M : Int) := by omega
      obtain rfl : k = M := by omega
      have htk : zs.take k = zs := List.take_of_length_le (by rw [HM.out]; exact Nat.le_refl _)
      have h1 := Hl1.out; have h2 := Hl2.out
      rw [htk] at h1 h2
      obtain rfl : l = lg := by
        have a1 : l ≤ lg := by
          rcases h2 with h | ⟨x, h3, h4⟩
          · omega
          · have := H1.out x h3; omega
        have a2 : lg ≤ l := by
          rcases H2.out with h | ⟨x, h3, h4⟩
          · omega
          · have := h1 x h3; omega
        omega
      clear h1 h2 htk
      go_wp2
      exact HQ.out _ _ _ _ _ _ _ _ _ _ _ _
end Go.Proofs.YbulkchuuGreatDoor
