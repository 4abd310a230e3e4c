import Derived.Test.YbulkchuuGreatDoorV2
namespace Go.Proofs.YbulkchuuGreatDoor
open Go.RowKit Go.Maps Classical
set_option linter.unusedVariables false
set_option linter.unusedSimpArgs false
set_option maxRecDepth 100000

set_option maxHeartbeats 32000000 in
theorem hI68 {e0 e1 e2 e3 e4 e5 e6 e7 e8 e9 e10 e11 e12 e13 e14 e15 e16 e17 e18 e19 e20 e21 e22 e23 e25 e28 e29 e30 e31 e32 e33 e34 e35 e36 e37 e38 e39 e40 e41 e42 e43 e44 e45 e46 e47 e48 e49 e50 e51 e52 e53 e54 e55 e56 e57 e58 e59 e60 e61 e62 e63 e64 e65 e66 e67 e68 e69 e70 e71 e72 e73 e74 e75 e76 e77 e78 e79 e80 e81 e82 e83 e84 e85 e86 e87 e88 e89 e90 e91 e92 e93 e94 e95 e96 e97 e98 e99 e100 e101 e102 e103 e104 e105 e106 e107 e108 e109 e110 e111 e112 e113 e114 e115 e116 e117 e118 e119 e120 e121 e122 e123 e124 e125 e126 e127 e128 e129 e130 e131 e132 e133 e134 e135 e136 e137 e138 e139 e140 e141 e142 e143 e144 e145 e146 e147 e148 e149 e150 e151 e152 e153 e154 e155 e156 e157 e158 e159 e160 e161 e162 e163 e164 e165 e166 e167 e168 e169 e170 e171 e172 e173 e174 e175 e176 e177 e178 e179 e180 e181 e182 e183 e184 e185 e186 e187 e188 e189 e190 e191 e192 e193 e194 e195 e196 e197 e198 e199 e200 e201 e202 e203 e204 e205 e206 e207 e208 e209 e210 e211 e212 e213 e214 e215 e216 e217 e218 e219 e220 e221 e222 e223 e224 e225 e226 e227 e228 e229 e230 e231 e232 e233 e234 e235 e236 e237 e238 e239 e240 e241 e242 e243 e244 e245 e246 e247 e248 e249 e250 e251 e252 e253 e254 e255 e256 e257 e258 e259 e260 e261 e262 e263 e264 e265 e266 e267 e268 e269 e270 e271 e272 e273 e274 e275 e276 e277 e278 e279 e280 e281 e282 e283 e284 e285 e286 e287 e288 e289 e290 e291 e292 e293 e294 e295 e296 e297 e298 e299 e300 e301 e302 e303 e304 e305 e306 e307 e308 e309 e310 e311 e312 e313 e314 e315 e316 e317 e318 e319 e320 e321 e322 e323 e324 e325 e326 e327 e328 e329 e331 e332 e333 e334 e335 e336 e337 e338 e339 e340 e341 e342 e343 e344 e345 e346 e347 e348 e349 e350 e351 e352 e353 e354 e355 e356 e357 e358 e359 e360 e361 e362 e363 e364 e365 e366 e367 e368 e369 e370 e371 e372 e373 e374 e375 e376 e377 e378 e379 e380 e381 e382 e383 e384 e385 e386 e387 e388 e389 e390 e391 e392 e393 e394 e395 e396 e397 e398 e399 e400 e401 e402 e403 e404 e405 e406 e407 e408 e409 e410 e411 e412 e413 e414 e415 e416 e417 e418 e419 e420 e421 e422 e423 e424 e425 e426 e427 e428 e429 e430 e431 e432 e433 e434 e435 e436 e437 e438 e439 e440 e441 e442 e443 e444 e445 e446 e447 e448 e449 e450 e451 e452 e453 e454 e455 e456 e457 e458 e459 e460 e461 e462 e463 e464 e465 e466 e467 e468 e469 e470 e471 e472 e473 e474 e475 e476 e477 e478 e479 e480 e481 e482 e483 e484 e485 e486 e487 e488 e489 e490 e491 e492 e493 e494 e495 e496 e497 e498 e499 e500 e501 e502 e503 e504 e505 e506 e507 e508 e509 e510 e511 e512 e513 e514 e515 e516 e517 e518 e519 e520 e521 e522 e523 e524 e525 e526 e527 e528 e529 e530 e531 : Value} (Q : Exit → Act → World → Prop) (N ab dk Bd : Nat) (D : DIn) (bb : Bool) (w0 : World) (hbb : bb = decide ((0 : Int) < (N : Int))) (hbd : Bd ≤ ab) (hda : dk ≠ ab) (hNn : D.n = (N : Int)) (hN : N ≤ 255) (hG : U8Row Bd D.ga D.gn D.grp w0) (hgn : D.gn ≤ 300) (hA : AskAt ab N (fun _ => false) w0) (hd : DAt dk D w0)
    (hQ : ∀ (x29 x331 x332 x333 x334 x335 x336 x337 x338 x339 x340 x341 x342 x343 x344 x345 x346 : Value) (wr : World), (AskAt ab N (askB D) wr ∧ Fr (fun b => b = ab) w0 wr) → Q .normal ⟨#[e0, e1, e2, e3, e4, e5, e6, e7, e8, e9, e10, e11, e12, e13, e14, e15, e16, e17, e18, e19, e20, e21, e22, e23, (.pointer (some ⟨dk, 0, none⟩)), e25, (.int .i64 (N : Int)), (.slice (some ⟨ab, 0, none⟩) N N), e28, x29, e30, e31, e32, e33, e34, e35, e36, e37, e38, e39, e40, e41, e42, e43, e44, e45, e46, e47, e48, e49, e50, e51, e52, e53, e54, e55, e56, e57, e58, e59, e60, e61, e62, e63, e64, e65, e66, e67, e68, e69, e70, e71, e72, e73, e74, e75, e76, e77, e78, e79, e80, e81, e82, e83, e84, e85, e86, e87, e88, e89, e90, e91, e92, e93, e94, e95, e96, e97, e98, e99, e100, e101, e102, e103, e104, e105, e106, e107, e108, e109, e110, e111, e112, e113, e114, e115, e116, e117, e118, e119, e120, e121, e122, e123, e124, e125, e126, e127, e128, e129, e130, e131, e132, e133, e134, e135, e136, e137, e138, e139, e140, e141, e142, e143, e144, e145, e146, e147, e148, e149, e150, e151, e152, e153, e154, e155, e156, e157, e158, e159, e160, e161, e162, e163, e164, e165, e166, e167, e168, e169, e170, e171, e172, e173, e174, e175, e176, e177, e178, e179, e180, e181, e182, e183, e184, e185, e186, e187, e188, e189, e190, e191, e192, e193, e194, e195, e196, e197, e198, e199, e200, e201, e202, e203, e204, e205, e206, e207, e208, e209, e210, e211, e212, e213, e214, e215, e216, e217, e218, e219, e220, e221, e222, e223, e224, e225, e226, e227, e228, e229, e230, e231, e232, e233, e234, e235, e236, e237, e238, e239, e240, e241, e242, e243, e244, e245, e246, e247, e248, e249, e250, e251, e252, e253, e254, e255, e256, e257, e258, e259, e260, e261, e262, e263, e264, e265, e266, e267, e268, e269, e270, e271, e272, e273, e274, e275, e276, e277, e278, e279, e280, e281, e282, e283, e284, e285, e286, e287, e288, e289, e290, e291, e292, e293, e294, e295, e296, e297, e298, e299, e300, e301, e302, e303, e304, e305, e306, e307, e308, e309, e310, e311, e312, e313, e314, e315, e316, e317, e318, e319, e320, e321, e322, e323, e324, e325, e326, e327, e328, e329, (.bool bb), x331, x332, x333, x334, x335, x336, x337, x338, x339, x340, x341, x342, x343, x344, x345, x346, e347, e348, e349, e350, e351, e352, e353, e354, e355, e356, e357, e358, e359, e360, e361, e362, e363, e364, e365, e366, e367, e368, e369, e370, e371, e372, e373, e374, e375, e376, e377, e378, e379, e380, e381, e382, e383, e384, e385, e386, e387, e388, e389, e390, e391, e392, e393, e394, e395, e396, e397, e398, e399, e400, e401, e402, e403, e404, e405, e406, e407, e408, e409, e410, e411, e412, e413, e414, e415, e416, e417, e418, e419, e420, e421, e422, e423, e424, e425, e426, e427, e428, e429, e430, e431, e432, e433, e434, e435, e436, e437, e438, e439, e440, e441, e442, e443, e444, e445, e446, e447, e448, e449, e450, e451, e452, e453, e454, e455, e456, e457, e458, e459, e460, e461, e462, e463, e464, e465, e466, e467, e468, e469, e470, e471, e472, e473, e474, e475, e476, e477, e478, e479, e480, e481, e482, e483, e484, e485, e486, e487, e488, e489, e490, e491, e492, e493, e494, e495, e496, e497, e498, e499, e500, e501, e502, e503, e504, e505, e506, e507, e508, e509, e510, e511, e512, e513, e514, e515, e516, e517, e518, e519, e520, e521, e522, e523, e524, e525, e526, e527, e528, e529, e530, e531], []⟩ wr) :
    Code.wp Ybaz.prog (cI68 Ybaz.f5) Q ⟨#[e0, e1, e2, e3, e4, e5, e6, e7, e8, e9, e10, e11, e12, e13, e14, e15, e16, e17, e18, e19, e20, e21, e22, e23, (.pointer (some ⟨dk, 0, none⟩)), e25, (.int .i64 (N : Int)), (.slice (some ⟨ab, 0, none⟩) N N), e28, e29, e30, e31, e32, e33, e34, e35, e36, e37, e38, e39, e40, e41, e42, e43, e44, e45, e46, e47, e48, e49, e50, e51, e52, e53, e54, e55, e56, e57, e58, e59, e60, e61, e62, e63, e64, e65, e66, e67, e68, e69, e70, e71, e72, e73, e74, e75, e76, e77, e78, e79, e80, e81, e82, e83, e84, e85, e86, e87, e88, e89, e90, e91, e92, e93, e94, e95, e96, e97, e98, e99, e100, e101, e102, e103, e104, e105, e106, e107, e108, e109, e110, e111, e112, e113, e114, e115, e116, e117, e118, e119, e120, e121, e122, e123, e124, e125, e126, e127, e128, e129, e130, e131, e132, e133, e134, e135, e136, e137, e138, e139, e140, e141, e142, e143, e144, e145, e146, e147, e148, e149, e150, e151, e152, e153, e154, e155, e156, e157, e158, e159, e160, e161, e162, e163, e164, e165, e166, e167, e168, e169, e170, e171, e172, e173, e174, e175, e176, e177, e178, e179, e180, e181, e182, e183, e184, e185, e186, e187, e188, e189, e190, e191, e192, e193, e194, e195, e196, e197, e198, e199, e200, e201, e202, e203, e204, e205, e206, e207, e208, e209, e210, e211, e212, e213, e214, e215, e216, e217, e218, e219, e220, e221, e222, e223, e224, e225, e226, e227, e228, e229, e230, e231, e232, e233, e234, e235, e236, e237, e238, e239, e240, e241, e242, e243, e244, e245, e246, e247, e248, e249, e250, e251, e252, e253, e254, e255, e256, e257, e258, e259, e260, e261, e262, e263, e264, e265, e266, e267, e268, e269, e270, e271, e272, e273, e274, e275, e276, e277, e278, e279, e280, e281, e282, e283, e284, e285, e286, e287, e288, e289, e290, e291, e292, e293, e294, e295, e296, e297, e298, e299, e300, e301, e302, e303, e304, e305, e306, e307, e308, e309, e310, e311, e312, e313, e314, e315, e316, e317, e318, e319, e320, e321, e322, e323, e324, e325, e326, e327, e328, e329, (.bool bb), e331, e332, e333, e334, e335, e336, e337, e338, e339, e340, e341, e342, e343, e344, e345, e346, e347, e348, e349, e350, e351, e352, e353, e354, e355, e356, e357, e358, e359, e360, e361, e362, e363, e364, e365, e366, e367, e368, e369, e370, e371, e372, e373, e374, e375, e376, e377, e378, e379, e380, e381, e382, e383, e384, e385, e386, e387, e388, e389, e390, e391, e392, e393, e394, e395, e396, e397, e398, e399, e400, e401, e402, e403, e404, e405, e406, e407, e408, e409, e410, e411, e412, e413, e414, e415, e416, e417, e418, e419, e420, e421, e422, e423, e424, e425, e426, e427, e428, e429, e430, e431, e432, e433, e434, e435, e436, e437, e438, e439, e440, e441, e442, e443, e444, e445, e446, e447, e448, e449, e450, e451, e452, e453, e454, e455, e456, e457, e458, e459, e460, e461, e462, e463, e464, e465, e466, e467, e468, e469, e470, e471, e472, e473, e474, e475, e476, e477, e478, e479, e480, e481, e482, e483, e484, e485, e486, e487, e488, e489, e490, e491, e492, e493, e494, e495, e496, e497, e498, e499, e500, e501, e502, e503, e504, e505, e506, e507, e508, e509, e510, e511, e512, e513, e514, e515, e516, e517, e518, e519, e520, e521, e522, e523, e524, e525, e526, e527, e528, e529, e530, e531], []⟩ w0 := by
  conv => arg 2; whnf
  have HG := hid hG; have HA := hid hA; have HQ := hid hQ; have HNn := hid hNn
  have haw : ab < w0.heap.size := by obtain ⟨c, h1, _⟩ := hA; exact heap_lt h1
  have hc2 : w0.cell? ⟨dk, 2, none⟩ = some (.slice D.ga D.gn D.gc) := by rw [cell_of hd]; rfl
  obtain ⟨GN, hGN⟩ : ∃ x, D.gn = x := ⟨_, rfl⟩
  obtain ⟨GA, hGA⟩ : ∃ x, D.ga = x := ⟨_, rfl⟩
  rw [hGN, hGA] at hc2
  rw [hGN] at hgn
  have HGN := hid hGN; have HGA := hid hGA
  clear hG hA hQ hNn hd hGN hGA
  by_cases hN0 : 0 < N
  · have hN0i : (0 : Int) < (N : Int) := by omega
    obtain rfl : bb = true := by rw [hbb]; simpa using hN0i
    have hNne : ((N : Int) == 0) = false := by simp; omega
    clear hbb
    go_wp2
    go_loopw [336] (fun vk wr => ∃ (t : Nat) (f : Nat → Bool), t ≤ GN ∧ vk = .int .i64 t ∧ Fr (fun b => b = ab) w0 wr ∧ AskAt ab N f wr ∧ ∀ g, g < N → (f g = true ↔ ∃ t', t' < t ∧ D.grp t' % D.n = (g : Int))) (fun vk _ => GN - (intOf vk).toNat)
    case atStart => exact ⟨0, fun _ => false, by omega, rfl, Fr.refl _ _, HA.out, fun g _ => ⟨fun h => by simp at h, fun ⟨t', h, _⟩ => by omega⟩⟩
    case round =>
      generalize wr = wq at *
      obtain ⟨t, f, ht, rfl, hF, hAq, hf⟩ := hrel
      have HF := hid hF; have HAq := hid hAq; have Hf := hid hf
      clear hf
      by_cases htG : t < GN
      · have hti : (t : Int) < (GN : Int) := by omega
        obtain ⟨bb, off, hga, hbb, s0, s1, s2⟩ := HG.out t (by rw [HGN.out]; exact htG)
        rw [HGA.out] at hga
        subst hga
        have d0 : wq.cell? ⟨bb, off + t, none⟩ = some (.int .u8 (D.grp t)) := (cell_eq (hF.block bb (by omega) (by omega)) _).trans s0
        obtain ⟨gv, hgv⟩ : ∃ x : Nat, D.grp t = (x : Int) := ⟨(D.grp t).toNat, by omega⟩
        rw [hgv] at d0 s1 s2
        have Hgv := hid hgv
        have hgv255 : gv ≤ 255 := by omega
        obtain ⟨m, hm⟩ : ∃ m : Nat, (gv : Int) % (N : Int) = (m : Int) := ⟨gv % N, by simp⟩
        have hmN : m < N := by have := Nat.mod_lt gv hN0; omega
        have hmNi : (m : Int) < (N : Int) := by omega
        have Hm := hid hm
        obtain ⟨cur, k1, k2, k3⟩ := hAq
        have c0 : wq.cell? ⟨ab, m, none⟩ = some (.bool (f m)) := by rw [cell_of k1]; exact k3 m hmN
        have c1 := frozen_of k1 m
        clear hF s0 hgv s1 s2 k1 k2 k3
        go_wp2
        go_roundw
        case rel =>
          refine ⟨t + 1, _, by omega, by go_num, HF.out.setCell ab m _ (.inl rfl), AskAt.set HAq.out m, fun g hg => ?_⟩
          have e1 : D.grp t % D.n = (m : Int) := by rw [Hgv.out, HNn.out, Hm.out]
          by_cases e : g = m
          · subst e
            simp only [if_true, true_iff]
            exact ⟨t, by omega, e1⟩
          · simp only [if_neg e]
            rw [Hf.out g hg]
            constructor
            · rintro ⟨t', h1, h2⟩; exact ⟨t', by omega, h2⟩
            · rintro ⟨t', h1, h2⟩
              by_cases e' : t' = t
              · subst e'; rw [e1] at h2; omega
              · exact ⟨t', by omega, h2⟩
        case measure => simp [intOf] <;> omega
      · have hti : ¬ (t : Int) < (GN : Int) := by omega
        obtain rfl : t = GN := by omega
        clear hF hAq
        go_wp2
        refine HQ.out _ _ _ _ _ _ _ _ _ _ _ _ _ _ _ _ _ wq ⟨?_, HF.out⟩
        obtain ⟨cur, k1, k2, k3⟩ := HAq.out
        refine ⟨cur, k1, k2, fun g hg => ?_⟩
        rw [k3 g hg]
        have : f g = askB D g := by
          rw [Bool.eq_iff_iff, Hf.out g hg]
          unfold askB
          simp only [decide_eq_true_eq]
          unfold AskedP
          rw [HGN.out, HNn.out]
          exact ⟨fun h => ⟨hN0i, h⟩, fun h => h.2⟩
        rw [this]
  · obtain rfl : N = 0 := by omega
    obtain rfl : bb = false := by rw [hbb]; rfl
    clear hbb
    go_wp2
    refine HQ.out _ _ _ _ _ _ _ _ _ _ _ _ _ _ _ _ _ w0 ⟨?_, Fr.refl _ _⟩
    obtain ⟨cur, k1, k2, k3⟩ := HA.out
    exact ⟨cur, k1, k2, fun g hg => by omega⟩
end Go.Proofs.YbulkchuuGreatDoor
