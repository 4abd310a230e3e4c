import Derived.Test.YbulkchuuGreatDoorV2
namespace Go.Proofs.YbulkchuuGreatDoor
open Go.RowKit Go.Maps
set_option linter.unusedVariables false
set_option linter.unusedSimpArgs false
set_option maxRecDepth 100000

theorem strL_succ (n : Nat) (f : Nat → ByteArray) : strL (n + 1) f = strL n f ++ [f n] := by simp [strL, List.range_succ]
theorem nameL_len (D : DIn) (t : Nat) : (nameL D t).length ≤ D.nn + t := by
  unfold nameL
  rw [List.length_append, strL_len]
  have := List.length_filter_le (fun u : ByteArray => decide (u ≠ ⟨#[]⟩)) (strL t D.user)
  rw [strL_len] at this
  omega
theorem nameL_in {D : DIn} {t : Nat} (h : D.user t ≠ ⟨#[]⟩) : nameL D (t + 1) = nameL D t ++ [D.user t] := by
  unfold nameL
  rw [strL_succ, List.filter_append, List.filter_cons_of_pos (by simpa using h), List.filter_nil, List.append_assoc]
theorem nameL_out {D : DIn} {t : Nat} (h : D.user t = ⟨#[]⟩) : nameL D (t + 1) = nameL D t := by
  unfold nameL
  rw [strL_succ, List.filter_append, List.filter_cons_of_neg (by simp [h]), List.filter_nil, List.append_nil]
set_option maxHeartbeats 32000000 in
theorem hB2 {e0 e1 e2 e3 e4 e5 e6 e7 e8 e10 e11 e12 e13 e14 e15 e16 e17 e18 e19 e20 e21 e22 e23 e24 e25 e26 e27 e28 e29 e30 e31 e32 e33 e34 e35 e36 e37 e38 e39 e40 e41 e42 e43 e44 e45 e46 e47 e48 e49 e50 e51 e52 e53 e54 e55 e56 e57 e58 e59 e60 e61 e62 e63 e64 e65 e66 e67 e68 e69 e70 e71 e72 e73 e74 e75 e76 e77 e78 e79 e80 e81 e82 e83 e84 e85 e86 e87 e88 e89 e90 e91 e92 e93 e94 e95 e96 e97 e98 e99 e100 e101 e102 e103 e104 e105 e106 e107 e108 e109 e110 e111 e112 e113 e114 e115 e116 e120 e121 e122 e123 e124 e125 e126 e127 e128 e129 e130 e131 e132 e133 e134 e135 e136 e137 e138 e139 e140 e141 e142 e143 e144 e145 e146 e147 e148 e149 e150 e151 e152 e153 e154 e155 e156 e157 e158 e159 e160 e161 e162 e163 e164 e165 e166 e167 e168 e169 e170 e171 e172 e173 e174 e175 e176 e177 e178 e179 e180 e181 e182 e183 e184 e185 e186 e187 e188 e189 e190 e191 e192 e193 e194 e195 e196 e197 e198 e199 e200 e201 e202 e203 e204 e205 e206 e207 e208 e209 e210 e211 e212 e213 e214 e215 e216 e217 e218 e219 e220 e221 e222 e223 e224 e225 e226 e227 e228 e229 e230 e231 e232 e233 e234 e235 e236 e237 e238 e239 e240 e241 e242 e243 e244 e245 e246 e247 e248 e249 e250 e251 e252 e253 e254 e255 e256 e257 e258 e259 e260 e261 e262 e263 e264 e265 e266 e267 e268 e269 e270 e271 e272 e273 e274 e275 e276 e277 e278 e279 e280 e281 e282 e283 e284 e285 e286 e287 e288 e289 e290 e291 e292 e293 e294 e295 e296 e297 e298 e299 e300 e301 e302 e303 e304 e305 e306 e307 e308 e309 e310 e311 e312 e313 e314 e315 e316 e317 e318 e319 e320 e321 e322 e323 e324 e325 e326 e327 e328 e329 e330 e331 e332 e333 e334 e335 e336 e337 e338 e339 e340 e341 e342 e343 e344 e345 e346 e347 e348 e349 e350 e351 e352 e353 e354 e355 e356 e357 e358 e359 e360 e361 e362 e363 e364 e365 e366 e367 e368 e369 e370 e371 e372 e373 e374 e375 e376 e377 e378 e379 e380 e381 e382 e383 e384 e385 e386 e387 e388 e389 e390 e391 e392 e393 e394 e395 e396 e397 e398 e399 e400 e401 e402 e403 e404 e405 e406 e407 e408 e409 e410 e411 e412 e413 e414 e415 e416 e417 e418 e419 e420 e421 e422 e423 e424 e425 e426 e427 e428 e429 e430 e431 e432 e433 e434 e435 e436 e437 e438 e439 e440 e441 e442 e443 e444 e445 e446 e447 e448 e449 e450 e451 e452 e453 e454 e455 e456 e457 e458 e459 e460 e461 e462 e463 e464 e465 e466 e467 e468 e469 e470 e471 e472 e473 e474 e475 e476 e477 e478 e479 e480 e481 e482 e483 e484 e485 e486 e487 e488 e489 e490 e491 e492 e493 e494 e495 e496 e497 e498 e499 e500 e501 e502 e503 e504 e505 e506 e507 e508 e509 e510 e511 e512 e513 e514 e515 e516 e517 e518 e519 e520 e521 e522 e523 e524 e525 e526 e527 e528 e529 e530 e531 : Value} (Q : Exit → Act → World → Prop) (B Bd UN uc : Nat) (ua : Option Addr) (v9 : Value) (D : DIn) (pre : List ByteArray) (w0 : World) (hUN : D.un = UN) (hsm : Small D) (hpl : pre.length ≤ 10000) (hBd : Bd ≤ B) (hB : B ≤ w0.heap.size) (hS : StrRow Bd ua UN D.user w0) (hrow : w0.ownsRow B 9 1 v9 (pre ++ nameL D 0).length ((pre ++ nameL D 0).map Value.string))
    (hQ : ∀ (x9 x12 x119 x120 x121 x122 x123 x124 x125 x126 x127 x128 x129 : Value) (wr : World), (wr.ownsRow B 9 1 x9 (pre ++ nameL D UN).length ((pre ++ nameL D UN).map Value.string) ∧ Below B w0 wr) → Q .normal ⟨#[e0, e1, e2, e3, e4, e5, e6, e7, e8, x9, e10, e11, x12, e13, e14, e15, e16, e17, e18, e19, e20, e21, e22, e23, e24, e25, e26, e27, e28, e29, e30, e31, e32, e33, e34, e35, e36, e37, e38, e39, e40, e41, e42, e43, e44, e45, e46, e47, e48, e49, e50, e51, e52, e53, e54, e55, e56, e57, e58, e59, e60, e61, e62, e63, e64, e65, e66, e67, e68, e69, e70, e71, e72, e73, e74, e75, e76, e77, e78, e79, e80, e81, e82, e83, e84, e85, e86, e87, e88, e89, e90, e91, e92, e93, e94, e95, e96, e97, e98, e99, e100, e101, e102, e103, e104, e105, e106, e107, e108, e109, e110, e111, e112, e113, e114, e115, e116, (.slice ua UN uc), (.int .i64 (UN : Int)), x119, x120, x121, x122, x123, x124, x125, x126, x127, x128, x129, e130, e131, e132, e133, e134, e135, e136, e137, e138, e139, e140, e141, e142, e143, e144, e145, e146, e147, e148, e149, e150, e151, e152, e153, e154, e155, e156, e157, e158, e159, e160, e161, e162, e163, e164, e165, e166, e167, e168, e169, e170, e171, e172, e173, e174, e175, e176, e177, e178, e179, e180, e181, e182, e183, e184, e185, e186, e187, e188, e189, e190, e191, e192, e193, e194, e195, e196, e197, e198, e199, e200, e201, e202, e203, e204, e205, e206, e207, e208, e209, e210, e211, e212, e213, e214, e215, e216, e217, e218, e219, e220, e221, e222, e223, e224, e225, e226, e227, e228, e229, e230, e231, e232, e233, e234, e235, e236, e237, e238, e239, e240, e241, e242, e243, e244, e245, e246, e247, e248, e249, e250, e251, e252, e253, e254, e255, e256, e257, e258, e259, e260, e261, e262, e263, e264, e265, e266, e267, e268, e269, e270, e271, e272, e273, e274, e275, e276, e277, e278, e279, e280, e281, e282, e283, e284, e285, e286, e287, e288, e289, e290, e291, e292, e293, e294, e295, e296, e297, e298, e299, e300, e301, e302, e303, e304, e305, e306, e307, e308, e309, e310, e311, e312, e313, e314, e315, e316, e317, e318, e319, e320, e321, e322, e323, e324, e325, e326, e327, e328, e329, e330, e331, e332, e333, e334, e335, e336, e337, e338, e339, e340, e341, e342, e343, e344, e345, e346, e347, e348, e349, e350, e351, e352, e353, e354, e355, e356, e357, e358, e359, e360, e361, e362, e363, e364, e365, e366, e367, e368, e369, e370, e371, e372, e373, e374, e375, e376, e377, e378, e379, e380, e381, e382, e383, e384, e385, e386, e387, e388, e389, e390, e391, e392, e393, e394, e395, e396, e397, e398, e399, e400, e401, e402, e403, e404, e405, e406, e407, e408, e409, e410, e411, e412, e413, e414, e415, e416, e417, e418, e419, e420, e421, e422, e423, e424, e425, e426, e427, e428, e429, e430, e431, e432, e433, e434, e435, e436, e437, e438, e439, e440, e441, e442, e443, e444, e445, e446, e447, e448, e449, e450, e451, e452, e453, e454, e455, e456, e457, e458, e459, e460, e461, e462, e463, e464, e465, e466, e467, e468, e469, e470, e471, e472, e473, e474, e475, e476, e477, e478, e479, e480, e481, e482, e483, e484, e485, e486, e487, e488, e489, e490, e491, e492, e493, e494, e495, e496, e497, e498, e499, e500, e501, e502, e503, e504, e505, e506, e507, e508, e509, e510, e511, e512, e513, e514, e515, e516, e517, e518, e519, e520, e521, e522, e523, e524, e525, e526, e527, e528, e529, e530, e531], []⟩ wr) :
    Code.wp Ybaz.prog (cB2 Ybaz.f5) Q ⟨#[e0, e1, e2, e3, e4, e5, e6, e7, e8, v9, e10, e11, e12, e13, e14, e15, e16, e17, e18, e19, e20, e21, e22, e23, e24, e25, e26, e27, e28, e29, e30, e31, e32, e33, e34, e35, e36, e37, e38, e39, e40, e41, e42, e43, e44, e45, e46, e47, e48, e49, e50, e51, e52, e53, e54, e55, e56, e57, e58, e59, e60, e61, e62, e63, e64, e65, e66, e67, e68, e69, e70, e71, e72, e73, e74, e75, e76, e77, e78, e79, e80, e81, e82, e83, e84, e85, e86, e87, e88, e89, e90, e91, e92, e93, e94, e95, e96, e97, e98, e99, e100, e101, e102, e103, e104, e105, e106, e107, e108, e109, e110, e111, e112, e113, e114, e115, e116, (.slice ua UN uc), (.int .i64 (UN : Int)), (.int .i64 0), e120, e121, e122, e123, e124, e125, e126, e127, e128, e129, e130, e131, e132, e133, e134, e135, e136, e137, e138, e139, e140, e141, e142, e143, e144, e145, e146, e147, e148, e149, e150, e151, e152, e153, e154, e155, e156, e157, e158, e159, e160, e161, e162, e163, e164, e165, e166, e167, e168, e169, e170, e171, e172, e173, e174, e175, e176, e177, e178, e179, e180, e181, e182, e183, e184, e185, e186, e187, e188, e189, e190, e191, e192, e193, e194, e195, e196, e197, e198, e199, e200, e201, e202, e203, e204, e205, e206, e207, e208, e209, e210, e211, e212, e213, e214, e215, e216, e217, e218, e219, e220, e221, e222, e223, e224, e225, e226, e227, e228, e229, e230, e231, e232, e233, e234, e235, e236, e237, e238, e239, e240, e241, e242, e243, e244, e245, e246, e247, e248, e249, e250, e251, e252, e253, e254, e255, e256, e257, e258, e259, e260, e261, e262, e263, e264, e265, e266, e267, e268, e269, e270, e271, e272, e273, e274, e275, e276, e277, e278, e279, e280, e281, e282, e283, e284, e285, e286, e287, e288, e289, e290, e291, e292, e293, e294, e295, e296, e297, e298, e299, e300, e301, e302, e303, e304, e305, e306, e307, e308, e309, e310, e311, e312, e313, e314, e315, e316, e317, e318, e319, e320, e321, e322, e323, e324, e325, e326, e327, e328, e329, e330, e331, e332, e333, e334, e335, e336, e337, e338, e339, e340, e341, e342, e343, e344, e345, e346, e347, e348, e349, e350, e351, e352, e353, e354, e355, e356, e357, e358, e359, e360, e361, e362, e363, e364, e365, e366, e367, e368, e369, e370, e371, e372, e373, e374, e375, e376, e377, e378, e379, e380, e381, e382, e383, e384, e385, e386, e387, e388, e389, e390, e391, e392, e393, e394, e395, e396, e397, e398, e399, e400, e401, e402, e403, e404, e405, e406, e407, e408, e409, e410, e411, e412, e413, e414, e415, e416, e417, e418, e419, e420, e421, e422, e423, e424, e425, e426, e427, e428, e429, e430, e431, e432, e433, e434, e435, e436, e437, e438, e439, e440, e441, e442, e443, e444, e445, e446, e447, e448, e449, e450, e451, e452, e453, e454, e455, e456, e457, e458, e459, e460, e461, e462, e463, e464, e465, e466, e467, e468, e469, e470, e471, e472, e473, e474, e475, e476, e477, e478, e479, e480, e481, e482, e483, e484, e485, e486, e487, e488, e489, e490, e491, e492, e493, e494, e495, e496, e497, e498, e499, e500, e501, e502, e503, e504, e505, e506, e507, e508, e509, e510, e511, e512, e513, e514, e515, e516, e517, e518, e519, e520, e521, e522, e523, e524, e525, e526, e527, e528, e529, e530, e531], []⟩ w0 := by
  conv => arg 2; whnf
  try dsimp only
  have hun := hsm.un; have hnn := hsm.nn
  rw [hUN] at hun
  have HS := hid hS; have Hrow := hid hrow; have HQ := hid hQ
  clear hS hrow hQ hsm hUN
  go_wp2
  go_loopw [9, 119] (fun v9 vt wr => ∃ t : Nat, t ≤ UN ∧ vt = .int .i64 t ∧ wr.ownsRow B 9 1 v9 (pre ++ nameL D t).length ((pre ++ nameL D t).map Value.string) ∧ Below B w0 wr) (fun _ vt _ => UN - (intOf vt).toNat)
  case atStart => exact ⟨0, by omega, rfl, Hrow.out, Below.refl _ _⟩
  case round =>
    generalize wr = wq at *
    obtain ⟨t, ht, rfl, hO, hBq⟩ := hrel
    obtain ⟨va, vc, rfl⟩ := own_slice' hO
    have HO := hid hO; have HBq := hid hBq
    have hszq := hBq.size
    by_cases htU : t < UN
    · have hti : (t : Int) < (UN : Int) := by omega
      obtain ⟨bb, off, rfl, hbb, s0, s1⟩ := HS.out t htU
      have d0 : wq.cell? ⟨bb, off + t, none⟩ = some (.string (D.user t)) := (hBq.cell (p := ⟨bb, off + t, none⟩) (by show bb < B; omega)).trans s0
      have hlen : (pre ++ nameL D t).length ≤ 11000 := by
        rw [List.length_append]
        have := nameL_len D t
        omega
      obtain ⟨LN, hLN⟩ : ∃ x, (pre ++ nameL D t).length = x := ⟨_, rfl⟩
      obtain ⟨u, hu⟩ : ∃ u, D.user t = u := ⟨_, rfl⟩
      rw [hu] at d0 s1
      rw [hLN] at hlen ⊢
      by_cases e : u = ⟨#[]⟩
      · have hfin : wq.ownsRow B 9 1 (.slice va LN vc) (pre ++ nameL D (t + 1)).length ((pre ++ nameL D (t + 1)).map Value.string) := by
          rw [nameL_out (by rw [hu]; exact e), hLN]
          rw [hLN] at hO
          exact hO
        have HFin := hid hfin
        subst e
        clear hO hBq hfin hLN hu s0
        go_wp2
        go_roundw
        case rel => exact ⟨t + 1, by omega, by go_num, HFin.out, HBq.out⟩
        case measure => simp [intOf] <;> omega
      · have hne := toList_ne e
        have hO2 := hO
        rw [hLN] at hO2
        obtain ⟨va', vc', w3, hrun, ho3, hg3⟩ := append_strs (hO2.alloc (.cells #[.string u] 9)) (some ⟨wq.heap.size, 0, none⟩) 1 [u] (fun j v hj => ⟨wq.heap.size, 0, rfl, by
          rw [cell_of (heap_alloc_new wq (.cells #[.string u] 9)), Nat.zero_add]
          simpa using hj⟩) (by simp; omega) (by simp; omega)
        have hfin : w3.ownsRow B 9 1 (.slice va' (LN + 1) vc') (pre ++ nameL D (t + 1)).length ((pre ++ nameL D (t + 1)).map Value.string) := by
          rw [nameL_in (by rw [hu]; exact e), ← List.append_assoc, List.length_append, List.map_append, hLN, hu]
          exact ho3
        have hB3 : Below B w0 w3 := by
          have h1 := hBq.alloc (by omega) (.cells #[.string u] 9)
          refine h1.trans ⟨hg3.os, hg3.tape, hg3.output, hg3.size, fun b hb => hg3.block b (by simp; omega) (fun e => ?_)⟩
          have := (hO2.lt b e.symm).1
          omega
        have HFin := hid hfin; have HB3 := hid hB3
        have Hrun := hid (show (Builtin.append_ #[22, 22] 22 #[.slice va LN vc, .slice (some ⟨wq.heap.size, 0, none⟩) 1 1]).run Ybaz.prog (wq.alloc (.cells #[.string u] 9)) = .ok (.slice va' (LN + 1) vc') w3 from hrun)
        clear hO hO2 hBq hfin hLN hu s0 hrun ho3 hg3 hB3 e
        go_upto_region 24 with fail
        go_wp2_with (at_builtin; refine wpList_append_run (u := .slice va LN vc) (y := .slice (some ⟨wq.heap.size, 0, none⟩) 1 1) (v' := .slice va' (LN + 1) vc') (w' := w3) rfl _ _ 22 rfl rfl rfl Hrun.out ?_)
        go_roundw
        case rel => exact ⟨t + 1, by omega, by go_num, HFin.out, HB3.out⟩
        case measure => simp [intOf] <;> omega
    · have hti : ¬ (t : Int) < (UN : Int) := by omega
      obtain rfl : t = UN := by omega
      clear hO hBq
      go_wp2
      exact HQ.out _ _ _ _ _ _ _ _ _ _ _ _ _ wq ⟨by have h := HO.out; rw [List.length_append] at h; rw [List.length_append]; exact h, HBq.out⟩

def namesTo (DD : Nat → DIn) : Nat → List ByteArray
  | 0 => []
  | k + 1 => namesTo DD k ++ nameL (DD k) (DD k).un
theorem namesTo_two (DD : Nat → DIn) : namesTo DD 2 = nameLL DD := by simp [namesTo, nameLL]
set_option maxHeartbeats 32000000 in
theorem hB0 {e0 e1 e2 e3 e4 e6 e7 e8 e11 e12 e13 e14 e15 e16 e17 e18 e19 e20 e21 e22 e23 e24 e25 e26 e27 e28 e29 e30 e31 e32 e33 e34 e35 e36 e37 e38 e39 e40 e41 e42 e43 e44 e45 e46 e47 e48 e49 e50 e51 e52 e53 e54 e55 e56 e57 e58 e59 e60 e61 e62 e63 e64 e65 e66 e67 e68 e69 e70 e71 e72 e73 e74 e75 e76 e77 e78 e79 e80 e81 e82 e83 e84 e85 e86 e87 e88 e89 e90 e91 e92 e93 e94 e95 e96 e97 e98 e99 e100 e101 e102 e103 e104 e105 e106 e107 e108 e109 e110 e111 e112 e113 e114 e115 e116 e117 e118 e119 e120 e121 e122 e123 e124 e125 e126 e127 e128 e129 e130 e131 e132 e133 e134 e135 e136 e137 e138 e139 e140 e141 e142 e143 e144 e145 e146 e147 e148 e149 e150 e151 e152 e153 e154 e155 e156 e157 e158 e159 e160 e161 e162 e163 e164 e165 e166 e167 e168 e169 e170 e171 e172 e173 e174 e175 e176 e177 e178 e179 e180 e181 e182 e183 e184 e185 e186 e187 e188 e189 e190 e191 e192 e193 e194 e195 e196 e197 e198 e199 e200 e201 e202 e203 e204 e205 e206 e207 e208 e209 e210 e211 e212 e213 e214 e215 e216 e217 e218 e219 e220 e221 e222 e223 e224 e225 e226 e227 e228 e229 e230 e231 e232 e233 e234 e235 e236 e237 e238 e239 e240 e241 e242 e243 e244 e245 e246 e247 e248 e249 e250 e251 e252 e253 e254 e255 e256 e257 e258 e259 e260 e261 e262 e263 e264 e265 e266 e267 e268 e269 e270 e271 e272 e273 e274 e275 e276 e277 e278 e279 e280 e281 e282 e283 e284 e285 e286 e287 e288 e289 e290 e291 e292 e293 e294 e295 e296 e297 e298 e299 e300 e301 e302 e303 e304 e305 e306 e307 e308 e309 e310 e311 e312 e313 e314 e315 e316 e317 e318 e319 e320 e321 e322 e323 e324 e325 e326 e327 e328 e329 e330 e331 e332 e333 e334 e335 e336 e337 e338 e339 e340 e341 e342 e343 e344 e345 e346 e347 e348 e349 e350 e351 e352 e353 e354 e355 e356 e357 e358 e359 e360 e361 e362 e363 e364 e365 e366 e367 e368 e369 e370 e371 e372 e373 e374 e375 e376 e377 e378 e379 e380 e381 e382 e383 e384 e385 e386 e387 e388 e389 e390 e391 e392 e393 e394 e395 e396 e397 e398 e399 e400 e401 e402 e403 e404 e405 e406 e407 e408 e409 e410 e411 e412 e413 e414 e415 e416 e417 e418 e419 e420 e421 e422 e423 e424 e425 e426 e427 e428 e429 e430 e431 e432 e433 e434 e435 e436 e437 e438 e439 e440 e441 e442 e443 e444 e445 e446 e447 e448 e449 e450 e451 e452 e453 e454 e455 e456 e457 e458 e459 e460 e461 e462 e463 e464 e465 e466 e467 e468 e469 e470 e471 e472 e473 e474 e475 e476 e477 e478 e479 e480 e481 e482 e483 e484 e485 e486 e487 e488 e489 e490 e491 e492 e493 e494 e495 e496 e497 e498 e499 e500 e501 e502 e503 e504 e505 e506 e507 e508 e509 e510 e511 e512 e513 e514 e515 e516 e517 e518 e519 e520 e521 e522 e523 e524 e525 e526 e527 e528 e529 e530 e531 : Value} (Q : Exit → Act → World → Prop) (w : World) (Bd : Nat) (DD : Nat → DIn) (K : CK) (p m : Nat → Value) (T : Nat → Prop) (ss : List (List UInt8)) (lg db fsb : Nat) (W8 w0 : World) (hM : Mid w Bd DD K p m T ss lg db fsb W8) (hB0 : Below W8.heap.size W8 w0)
    (hQ : ∀ (x9 x10 x12 x100 x101 x102 x103 x104 x105 x106 x107 x108 x109 x110 x111 x112 x113 x114 x115 x116 x117 x118 x119 x120 x121 x122 x123 x124 x125 x126 x127 x128 x129 : Value) (wr : World), (wr.ownsRow W8.heap.size 9 1 x9 (nameLL DD).length ((nameLL DD).map Value.string) ∧ Below W8.heap.size W8 wr) → Q .normal ⟨#[e0, e1, e2, e3, e4, (.pointer (some ⟨db, 0, none⟩)), e6, e7, e8, x9, x10, e11, x12, e13, e14, e15, e16, e17, e18, e19, e20, e21, e22, e23, e24, e25, e26, e27, e28, e29, e30, e31, e32, e33, e34, e35, e36, e37, e38, e39, e40, e41, e42, e43, e44, e45, e46, e47, e48, e49, e50, e51, e52, e53, e54, e55, e56, e57, e58, e59, e60, e61, e62, e63, e64, e65, e66, e67, e68, e69, e70, e71, e72, e73, e74, e75, e76, e77, e78, e79, e80, e81, e82, e83, e84, e85, e86, e87, e88, e89, e90, e91, e92, e93, e94, e95, e96, e97, e98, e99, x100, x101, x102, x103, x104, x105, x106, x107, x108, x109, x110, x111, x112, x113, x114, x115, x116, x117, x118, x119, x120, x121, x122, x123, x124, x125, x126, x127, x128, x129, e130, e131, e132, e133, e134, e135, e136, e137, e138, e139, e140, e141, e142, e143, e144, e145, e146, e147, e148, e149, e150, e151, e152, e153, e154, e155, e156, e157, e158, e159, e160, e161, e162, e163, e164, e165, e166, e167, e168, e169, e170, e171, e172, e173, e174, e175, e176, e177, e178, e179, e180, e181, e182, e183, e184, e185, e186, e187, e188, e189, e190, e191, e192, e193, e194, e195, e196, e197, e198, e199, e200, e201, e202, e203, e204, e205, e206, e207, e208, e209, e210, e211, e212, e213, e214, e215, e216, e217, e218, e219, e220, e221, e222, e223, e224, e225, e226, e227, e228, e229, e230, e231, e232, e233, e234, e235, e236, e237, e238, e239, e240, e241, e242, e243, e244, e245, e246, e247, e248, e249, e250, e251, e252, e253, e254, e255, e256, e257, e258, e259, e260, e261, e262, e263, e264, e265, e266, e267, e268, e269, e270, e271, e272, e273, e274, e275, e276, e277, e278, e279, e280, e281, e282, e283, e284, e285, e286, e287, e288, e289, e290, e291, e292, e293, e294, e295, e296, e297, e298, e299, e300, e301, e302, e303, e304, e305, e306, e307, e308, e309, e310, e311, e312, e313, e314, e315, e316, e317, e318, e319, e320, e321, e322, e323, e324, e325, e326, e327, e328, e329, e330, e331, e332, e333, e334, e335, e336, e337, e338, e339, e340, e341, e342, e343, e344, e345, e346, e347, e348, e349, e350, e351, e352, e353, e354, e355, e356, e357, e358, e359, e360, e361, e362, e363, e364, e365, e366, e367, e368, e369, e370, e371, e372, e373, e374, e375, e376, e377, e378, e379, e380, e381, e382, e383, e384, e385, e386, e387, e388, e389, e390, e391, e392, e393, e394, e395, e396, e397, e398, e399, e400, e401, e402, e403, e404, e405, e406, e407, e408, e409, e410, e411, e412, e413, e414, e415, e416, e417, e418, e419, e420, e421, e422, e423, e424, e425, e426, e427, e428, e429, e430, e431, e432, e433, e434, e435, e436, e437, e438, e439, e440, e441, e442, e443, e444, e445, e446, e447, e448, e449, e450, e451, e452, e453, e454, e455, e456, e457, e458, e459, e460, e461, e462, e463, e464, e465, e466, e467, e468, e469, e470, e471, e472, e473, e474, e475, e476, e477, e478, e479, e480, e481, e482, e483, e484, e485, e486, e487, e488, e489, e490, e491, e492, e493, e494, e495, e496, e497, e498, e499, e500, e501, e502, e503, e504, e505, e506, e507, e508, e509, e510, e511, e512, e513, e514, e515, e516, e517, e518, e519, e520, e521, e522, e523, e524, e525, e526, e527, e528, e529, e530, e531], []⟩ wr) :
    Code.wp Ybaz.prog (cB0 Ybaz.f5) Q ⟨#[e0, e1, e2, e3, e4, (.pointer (some ⟨db, 0, none⟩)), e6, e7, e8, (.slice none 0 0), (.int .i64 0), e11, e12, e13, e14, e15, e16, e17, e18, e19, e20, e21, e22, e23, e24, e25, e26, e27, e28, e29, e30, e31, e32, e33, e34, e35, e36, e37, e38, e39, e40, e41, e42, e43, e44, e45, e46, e47, e48, e49, e50, e51, e52, e53, e54, e55, e56, e57, e58, e59, e60, e61, e62, e63, e64, e65, e66, e67, e68, e69, e70, e71, e72, e73, e74, e75, e76, e77, e78, e79, e80, e81, e82, e83, e84, e85, e86, e87, e88, e89, e90, e91, e92, e93, e94, e95, e96, e97, e98, e99, e100, e101, e102, e103, e104, e105, e106, e107, e108, e109, e110, e111, e112, e113, e114, e115, e116, e117, e118, e119, e120, e121, e122, e123, e124, e125, e126, e127, e128, e129, e130, e131, e132, e133, e134, e135, e136, e137, e138, e139, e140, e141, e142, e143, e144, e145, e146, e147, e148, e149, e150, e151, e152, e153, e154, e155, e156, e157, e158, e159, e160, e161, e162, e163, e164, e165, e166, e167, e168, e169, e170, e171, e172, e173, e174, e175, e176, e177, e178, e179, e180, e181, e182, e183, e184, e185, e186, e187, e188, e189, e190, e191, e192, e193, e194, e195, e196, e197, e198, e199, e200, e201, e202, e203, e204, e205, e206, e207, e208, e209, e210, e211, e212, e213, e214, e215, e216, e217, e218, e219, e220, e221, e222, e223, e224, e225, e226, e227, e228, e229, e230, e231, e232, e233, e234, e235, e236, e237, e238, e239, e240, e241, e242, e243, e244, e245, e246, e247, e248, e249, e250, e251, e252, e253, e254, e255, e256, e257, e258, e259, e260, e261, e262, e263, e264, e265, e266, e267, e268, e269, e270, e271, e272, e273, e274, e275, e276, e277, e278, e279, e280, e281, e282, e283, e284, e285, e286, e287, e288, e289, e290, e291, e292, e293, e294, e295, e296, e297, e298, e299, e300, e301, e302, e303, e304, e305, e306, e307, e308, e309, e310, e311, e312, e313, e314, e315, e316, e317, e318, e319, e320, e321, e322, e323, e324, e325, e326, e327, e328, e329, e330, e331, e332, e333, e334, e335, e336, e337, e338, e339, e340, e341, e342, e343, e344, e345, e346, e347, e348, e349, e350, e351, e352, e353, e354, e355, e356, e357, e358, e359, e360, e361, e362, e363, e364, e365, e366, e367, e368, e369, e370, e371, e372, e373, e374, e375, e376, e377, e378, e379, e380, e381, e382, e383, e384, e385, e386, e387, e388, e389, e390, e391, e392, e393, e394, e395, e396, e397, e398, e399, e400, e401, e402, e403, e404, e405, e406, e407, e408, e409, e410, e411, e412, e413, e414, e415, e416, e417, e418, e419, e420, e421, e422, e423, e424, e425, e426, e427, e428, e429, e430, e431, e432, e433, e434, e435, e436, e437, e438, e439, e440, e441, e442, e443, e444, e445, e446, e447, e448, e449, e450, e451, e452, e453, e454, e455, e456, e457, e458, e459, e460, e461, e462, e463, e464, e465, e466, e467, e468, e469, e470, e471, e472, e473, e474, e475, e476, e477, e478, e479, e480, e481, e482, e483, e484, e485, e486, e487, e488, e489, e490, e491, e492, e493, e494, e495, e496, e497, e498, e499, e500, e501, e502, e503, e504, e505, e506, e507, e508, e509, e510, e511, e512, e513, e514, e515, e516, e517, e518, e519, e520, e521, e522, e523, e524, e525, e526, e527, e528, e529, e530, e531], []⟩ w0 := by
  conv => arg 2; whnf
  try dsimp only
  have HM := hid hM; have HB0 := hid hB0; have HQ := hid hQ
  have hbd := hM.bd
  clear hM hB0 hQ
  go_wp2
  go_loopw [9, 10] (fun v9 vk wr => ∃ k : Nat, k ≤ 2 ∧ vk = .int .i64 k ∧ wr.ownsRow W8.heap.size 9 1 v9 (namesTo DD k).length ((namesTo DD k).map Value.string) ∧ Below W8.heap.size W8 wr ∧ (namesTo DD k).length ≤ 600 * k) (fun _ vk _ => 2 - (intOf vk).toNat)
  case atStart => exact ⟨0, by omega, rfl, World.ownsRow_nil _ _ _ _, HB0.out, by simp [namesTo]⟩
  case round =>
    generalize wr = wq at *
    obtain ⟨k, hk, rfl, hO, hB, hln⟩ := hrel
    obtain ⟨va, vc, rfl⟩ := own_slice' hO
    have HO := hid hO; have HB := hid hB
    have hszq := hB.size
    by_cases hk2 : k < 2
    · have hki : (k : Int) < 2 := by omega
      have hMq := HM.out.up hB
      have hk01 : k = 0 ∨ k = 1 := by omega
      have cds : wq.cell? ⟨db, k, none⟩ = some (.pointer (some ⟨w.heap.size + k, 0, none⟩)) := by
        rw [cell_of hMq.ds]
        rcases hk01 with rfl | rfl <;> rfl
      obtain ⟨D, hD⟩ : ∃ D, DD k = D := ⟨_, rfl⟩
      have hind := hMq.ind k hk2
      have hsm := hMq.small k hk2
      have hda := hMq.data k hk2
      rw [hD] at hind hsm hda
      have hdl : w.heap.size + k < W8.heap.size := heap_lt (HM.out.data k hk2)
      have hdbl : db < W8.heap.size := heap_lt HM.out.ds
      obtain ⟨dk, hdk⟩ : ∃ x, w.heap.size + k = x := ⟨_, rfl⟩
      rw [hdk] at cds hda hdl
      have c3 : wq.cell? ⟨dk, 3, none⟩ = some (.slice D.na D.nn D.nc) := by rw [cell_of hda]; rfl
      have hnn := hsm.nn; have hun := hsm.un
      obtain ⟨va', vc', w1, hrun, ho1, hg1⟩ := append_strs hO D.na D.nc (strL D.nn D.named) (strRow_R hind.named) hszq (by rw [strL_len]; omega)
      rw [strL_len] at hrun ho1
      have hB1 : Below W8.heap.size wq w1 := ⟨hg1.os, hg1.tape, hg1.output, hg1.size, fun b hb => hg1.block b (by omega) (fun e => by have := (hO.lt b e.symm).1; omega)⟩
      have hB81 : Below W8.heap.size W8 w1 := hB.trans hB1
      have cds1 : w1.cell? ⟨db, k, none⟩ = some (.pointer (some ⟨dk, 0, none⟩)) := (hB1.cell (p := ⟨db, k, none⟩) hdbl).trans cds
      have c1 : w1.cell? ⟨dk, 1, none⟩ = some (.slice D.ua D.un D.uc) := by rw [hB1.cell (p := ⟨dk, 1, none⟩) hdl, cell_of hda]; rfl
      have hrow1 : w1.ownsRow W8.heap.size 9 1 (.slice va' ((namesTo DD k).length + D.nn) vc') (namesTo DD k ++ nameL D 0).length ((namesTo DD k ++ nameL D 0).map Value.string) := by
        have e : nameL D 0 = strL D.nn D.named := by simp [nameL, strL]
        rw [e, List.length_append, strL_len, List.map_append]; exact ho1
      have hS1 := hind.user.below (hB1.mono hbd)
      have hsucc : namesTo DD k ++ nameL D D.un = namesTo DD (k + 1) := by rw [← hD]; rfl
      obtain ⟨LN, hLN⟩ : ∃ x, (namesTo DD k).length = x := ⟨_, rfl⟩
      obtain ⟨NN, hNN⟩ : ∃ x, D.nn = x := ⟨_, rfl⟩
      obtain ⟨UN, hUN⟩ : ∃ x, D.un = x := ⟨_, rfl⟩
      rw [hUN] at c1 hS1 hsucc hun
      have hln2 : (namesTo DD (k + 1)).length ≤ 600 * (k + 1) := by
        rw [← hsucc, List.length_append]
        have := nameL_len D UN
        omega
      have Hln2 := hid hln2
      rw [hLN, hNN] at hrun hrow1
      rw [hNN] at c3 hnn
      have HS1 := hid hS1; have Hrow1 := hid hrow1; have Hrun := hid hrun; have HUN := hid hUN; have Hsm := hid hsm; have HLN := hid hLN; have Hsucc := hid hsucc; have HB81 := hid hB81
      rw [hLN] at hln ⊢
      obtain ⟨na, hna⟩ : ∃ x, D.na = x := ⟨_, rfl⟩
      obtain ⟨ua, hua⟩ : ∃ x, D.ua = x := ⟨_, rfl⟩
      rw [hna] at c3 Hrun
      rw [hua] at c1 HS1
      clear hO hB hMq hk01 hind hsm hda hdk hrun ho1 hg1 hB1 hB81 hrow1 hS1 hD hLN hNN hUN hna hua hsucc hln2
      go_upto_region 19 with fail
      go_upto_region 20 with (at_builtin; refine wpList_append_run (u := .slice va LN vc) (y := .slice na NN D.nc) (v' := .slice va' (LN + NN) vc') (w' := w1) rfl _ _ 22 rfl rfl rfl Hrun.out ?_)
      go_upto_block 2 with fail
      refine hB2 _ W8.heap.size Bd UN D.uc ua _ D (namesTo DD k) w1 HUN.out Hsm.out (by rw [HLN.out]; omega) hbd HB81.out.size HS1.out Hrow1.out ?_
      rintro y9 y12 y119 y120 y121 y122 y123 y124 y125 y126 y127 y128 y129 wz ⟨hz1, hz2⟩
      rw [Hsucc.out] at hz1
      have Hz1 := hid hz1; have Hz2 := hid (HB81.out.trans hz2)
      clear hz1 hz2
      go_wp2
      go_roundw
      case rel => exact ⟨k + 1, by omega, by go_num, Hz1.out, Hz2.out, Hln2.out⟩
      case measure => simp [intOf] <;> omega
    · have hki : ¬ (k : Int) < 2 := by omega
      obtain rfl : k = 2 := by omega
      clear hO hB
      go_wp2
      have h1 := HO.out
      exact HQ.out _ _ _ _ _ _ _ _ _ _ _ _ _ _ _ _ _ _ _ _ _ _ _ _ _ _ _ _ _ _ _ _ _ wq ⟨by rw [← namesTo_two]; exact h1, HB.out⟩
end Go.Proofs.YbulkchuuGreatDoor
