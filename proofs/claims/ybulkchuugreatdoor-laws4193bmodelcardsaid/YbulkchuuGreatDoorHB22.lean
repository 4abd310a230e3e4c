import Derived.Test.YbulkchuuGreatDoorV2
namespace Go.Proofs.YbulkchuuGreatDoor
open Go.RowKit Go.Maps Classical
set_option linter.unusedVariables false
set_option linter.unusedSimpArgs false
set_option maxRecDepth 100000

theorem app1_at {w : World} {B n : Nat} {v : Value} {xs : List Value} (hO : w.ownsRow B 21 1 v n xs) (x : Int) (hB : B ≤ w.heap.size) (hn : n ≤ 1000000) :
    ∃ va' vc' w', (Builtin.append_ #[77, 77] 77 #[v, .slice (some ⟨w.heap.size, 0, none⟩) 1 1]).run Ybaz.prog (w.alloc (.cells #[.int .i32 x] 21)) = .ok (.slice va' (n + 1) vc') w' ∧ w'.ownsRow B 21 1 (.slice va' (n + 1) vc') (n + 1) (xs ++ [.int .i32 x]) ∧ (w.alloc (.cells #[.int .i32 x] 21)).grownBy w' v.ownBlock ∧
      ∀ b, (Value.slice va' (n + 1) vc').ownBlock = some b → v.ownBlock = some b ∨ w.heap.size ≤ b := by
  obtain ⟨i21, hi21, hx0, hx1, hx2⟩ := info_parts info21
  obtain ⟨v', w8, hrun, ho8, hg8, _, hat8⟩ := run_append_own_at (P := Ybaz.prog) (w.alloc (.cells #[.int .i32 x] 21)) B 77 77 21 i21 (.int .i32 0) 1 4 Ybaz.underlying77 hi21 hx0 hx1 hx2 rfl (by decide) v n xs (hO.alloc _) ⟨w.heap.size, 0, none⟩ 1 1 [.int .i32 x] rfl (new_cells w [.int .i32 x] 21) (by intro u hu; simp at hu; subst hu; rfl) (by unfold maxLen; omega) (by omega) (by simp; omega)
  obtain ⟨va', vc', rfl⟩ := own_slice' ho8
  refine ⟨va', vc', w8, hrun, ho8, hg8, fun b hb => ?_⟩
  rcases hat8 with e | e
  · exact .inl (by rw [← e]; exact hb)
  · rw [e] at hb
    injection hb with hb
    have : (w.alloc (.cells #[.int .i32 x] 21)).heap.size = w.heap.size + 1 := by simp
    right; omega
theorem gsStep {D : DIn} {uL : List ByteArray} {wq : World} {B N wb GL t i : Nat} {gv : Value} {xs : List Value} {L : Nat → List Int} {M8 : Nat → Prop} (ho : wq.ownsRow B 21 1 gv GL xs) (hm : MembAt D uL wb N L M8 wq) (hM : ∀ b, M8 b → b < wq.heap.size) (hdis : ∀ b, gv.ownBlock = some b → ¬ M8 b) (ht : t < N) (hB : B ≤ wq.heap.size) (hGL : GL ≤ 1000000) (hi : i ≤ 1000000) (hl : (L t).length ≤ 1000000) :
    ∃ ga' gc' w3 va vc va' vc' w8, (Builtin.append_ #[77, 77] 77 #[gv, .slice (some ⟨wq.heap.size, 0, none⟩) 1 1]).run Ybaz.prog (wq.alloc (.cells #[.int .i32 (t : Int)] 21)) = .ok (.slice ga' (GL + 1) gc') w3 ∧ w3.cell? ⟨wb, t, none⟩ = some (.slice va (L t).length vc) ∧
      (Builtin.append_ #[77, 77] 77 #[.slice va (L t).length vc, .slice (some ⟨w3.heap.size, 0, none⟩) 1 1]).run Ybaz.prog (w3.alloc (.cells #[.int .i32 (i : Int)] 21)) = .ok (.slice va' ((L t).length + 1) vc') w8 ∧ w8.cell? ⟨wb, t, none⟩ = some (.slice va (L t).length vc) ∧ w8.frozen? ⟨wb, t, none⟩ = false ∧
      (w8.setCell ⟨wb, t, none⟩ (.slice va' ((L t).length + 1) vc')).ownsRow B 21 1 (.slice ga' (GL + 1) gc') (GL + 1) (xs ++ [.int .i32 (t : Int)]) ∧
      ∃ M9, MembAt D uL wb N (fun j => if j = t then L t ++ [(i : Int)] else L j) M9 (w8.setCell ⟨wb, t, none⟩ (.slice va' ((L t).length + 1) vc')) ∧ (∀ b, M9 b → M8 b ∨ (wq.heap.size ≤ b ∧ b < (w8.setCell ⟨wb, t, none⟩ (.slice va' ((L t).length + 1) vc')).heap.size)) ∧
        (∀ b, (Value.slice ga' (GL + 1) gc').ownBlock = some b → ¬ M9 b) ∧ KeepOff (fun b => b = wb ∨ M8 b ∨ gv.ownBlock = some b) wq (w8.setCell ⟨wb, t, none⟩ (.slice va' ((L t).length + 1) vc')) := by
  obtain ⟨ga', gc', w3, hr3, ho3, hg3, hat3⟩ := app1_at ho (t : Int) hB hGL
  obtain ⟨cur, c1, c2, c3, c4⟩ := hm
  have hwbl := heap_lt c1
  have hne : gv.ownBlock ≠ some wb := own_tag ho c1 (by decide)
  have hs1 : (wq.alloc (.cells #[.int .i32 (t : Int)] 21)).heap.size = wq.heap.size + 1 := by simp
  have hs3 := hg3.size
  have hk3 : ∀ b, b < wq.heap.size → gv.ownBlock ≠ some b → w3.heap[b]? = wq.heap[b]? := fun b hb hn => (hg3.block b (by omega) (fun e => hn e.symm)).trans (Below.heap_alloc _ _ _ hb)
  have hm3 : MembAt D uL wb N L M8 w3 := MembAt.keep ⟨cur, c1, c2, c3, c4⟩ (hk3 wb hwbl hne) (fun b hb => hk3 b (hM b hb) (fun e => hdis b e hb)) (fun b hb => hb)
  obtain ⟨va, vc, va', vc', w8, k1, k2, k3, k4, k5, k6, k7, k8, k9⟩ := hm3.push2 t ht i hi hl (fun b hb => by have := hM b hb; omega)
  have hn8 : ∀ b, (Value.slice ga' (GL + 1) gc').ownBlock = some b → ¬ M8 b := fun b hb h => by
    rcases hat3 b hb with e | e
    · exact hdis b e h
    · have := hM b h; omega
  have hbw : (Value.slice ga' (GL + 1) gc').ownBlock ≠ some wb := own_tag ho3 ((hk3 wb hwbl hne).trans c1) (by decide)
  have hs8 : (w8.setCell ⟨wb, t, none⟩ (.slice va' ((L t).length + 1) vc')).heap.size = w8.heap.size := by simp
  refine ⟨ga', gc', w3, va, vc, va', vc', w8, hr3, k1, k2, k3, k4, own_move ho3 (fun b hb hl' => k7 b hl' (fun e => hbw (by rw [hb, e])) (hn8 b hb)), _, k5, fun b hb => ?_, fun b hb hM9 => ?_, ⟨k8.1.trans hg3.os, k8.2.1.trans hg3.tape, k8.2.2.trans hg3.output, by omega, fun b hb hn => ?_⟩⟩
  · rcases hb with h | h
    · exact .inl h
    · rcases k6 b h with h | h
      · exact .inl h
      · right; omega
  · rcases hM9 with h | h
    · exact hn8 b hb h
    · rcases k6 b h with h | h
      · exact hn8 b hb h
      · have := (ho3.lt b hb).2; omega
  · exact (k7 b (by omega) (fun e => hn (.inl e)) (fun e => hn (.inr (.inl e)))).trans (hk3 b hb (fun e => hn (.inr (.inr e))))
theorem wantTo_in {D : DIn} {uL : List ByteArray} {i t : Nat} {u : ByteArray} (hu : uL[i]? = some u) (h : InGrp D u t) : (fun j => if j = t then wantTo D uL i t t ++ [(i : Int)] else wantTo D uL i t j) = wantTo D uL i (t + 1) := by
  funext j
  unfold wantTo
  by_cases e : j = t
  · subst e
    rw [if_pos rfl, if_neg (by omega), if_pos (by omega), mOf_next D uL i j u hu, if_pos h]
  · rw [if_neg e]
    by_cases e2 : j < t
    · rw [if_pos e2, if_pos (by omega)]
    · rw [if_neg e2, if_neg (by omega)]
theorem wantTo_out {D : DIn} {uL : List ByteArray} {i t : Nat} {u : ByteArray} (hu : uL[i]? = some u) (h : ¬ InGrp D u t) : wantTo D uL i t = wantTo D uL i (t + 1) := by
  funext j
  unfold wantTo
  by_cases e : j = t
  · subst e
    rw [if_neg (by omega), if_pos (by omega), mOf_next D uL i j u hu, if_neg h, List.append_nil]
  · by_cases e2 : j < t
    · rw [if_pos e2, if_pos (by omega)]
    · rw [if_neg e2, if_neg (by omega)]
set_option maxHeartbeats 32000000 in
theorem hB22 {e0 e1 e2 e3 e4 e5 e6 e7 e8 e9 e10 e11 e12 e13 e14 e15 e16 e17 e18 e19 e20 e21 e22 e23 e24 e25 e28 e29 e32 e33 e35 e36 e37 e38 e39 e40 e43 e44 e45 e46 e47 e48 e49 e50 e51 e52 e53 e54 e55 e56 e57 e58 e59 e60 e61 e62 e63 e64 e65 e66 e67 e68 e69 e70 e71 e72 e73 e74 e75 e76 e77 e78 e79 e80 e81 e82 e83 e84 e85 e86 e87 e88 e89 e90 e91 e92 e93 e94 e95 e96 e97 e98 e99 e100 e101 e102 e103 e104 e105 e106 e107 e108 e109 e110 e111 e112 e113 e114 e115 e116 e117 e118 e119 e120 e121 e122 e123 e124 e125 e126 e127 e128 e129 e130 e131 e132 e133 e134 e135 e136 e137 e138 e139 e140 e141 e142 e143 e144 e145 e146 e147 e148 e149 e150 e151 e152 e153 e154 e155 e156 e157 e158 e159 e160 e161 e162 e163 e164 e165 e166 e167 e168 e169 e170 e171 e172 e173 e174 e175 e176 e177 e178 e179 e180 e181 e182 e183 e184 e185 e186 e187 e188 e189 e190 e191 e192 e193 e194 e195 e196 e197 e198 e199 e200 e201 e202 e203 e204 e205 e206 e207 e208 e209 e210 e211 e212 e213 e214 e215 e216 e217 e218 e219 e220 e221 e222 e223 e224 e225 e226 e227 e228 e229 e230 e231 e232 e233 e234 e235 e236 e237 e238 e239 e240 e241 e242 e243 e244 e245 e246 e247 e248 e249 e250 e251 e252 e253 e254 e255 e256 e257 e258 e259 e260 e261 e262 e263 e264 e265 e266 e267 e268 e269 e270 e271 e272 e273 e274 e275 e276 e277 e278 e279 e280 e281 e282 e283 e284 e285 e286 e287 e288 e289 e290 e291 e292 e293 e294 e295 e296 e297 e298 e299 e300 e301 e302 e303 e304 e305 e306 e307 e308 e309 e310 e311 e312 e313 e314 e315 e316 e317 e318 e319 e320 e321 e322 e323 e324 e325 e326 e327 e328 e329 e330 e331 e332 e333 e334 e335 e336 e337 e338 e339 e340 e341 e342 e343 e344 e345 e346 e347 e348 e349 e350 e351 e352 e353 e354 e355 e356 e357 e358 e359 e360 e361 e362 e363 e364 e365 e366 e367 e368 e369 e370 e371 e372 e373 e374 e375 e376 e377 e378 e379 e380 e381 e382 e383 e384 e385 e386 e387 e388 e389 e390 e391 e392 e393 e394 e395 e396 e397 e398 e399 e400 e401 e402 e403 e404 e405 e406 e407 e408 e409 e410 e411 e412 e413 e414 e415 e416 e417 e418 e419 e420 e421 e422 e423 e424 e425 e426 e427 e428 e429 e430 e431 e432 e433 e434 e435 e436 e437 e438 e439 e440 e441 e442 e443 e444 e445 e446 e447 e448 e449 e450 e451 e452 e453 e454 e455 e456 e457 e458 e459 e460 e461 e462 e463 e464 e465 e466 e467 e468 e469 e470 e471 e472 e473 e474 e475 e476 e477 e478 e479 e480 e481 e482 e483 e484 e485 e486 e487 e488 e489 e490 e491 e492 e493 e494 e495 e496 e497 e498 e499 e500 e501 e502 e503 e504 e505 e506 e507 e508 e509 e510 e511 e512 e513 e514 e515 e516 e517 e518 e519 e520 e521 e522 e523 e524 e525 e526 e527 e528 e529 e530 e531 : Value} (Q : Exit → Act → World → Prop) (N rbk ab wb i : Nat) (D : DIn) (uL : List ByteArray) (u : ByteArray) (rf : Nat → Bool) (Mm : Nat → Prop) (w17 : World) (hN : N ≤ 255) (hi : i ≤ 900000) (hu : uL[i]? = some u) (hNn : D.n.toNat = N) (hr : AskAt rbk N rf w17) (ha : AskAt ab N (askB D) w17) (hm : MembAt D uL wb N (mOf D uL i) Mm w17) (hMm : ∀ b, Mm b → b < w17.heap.size ∧ b ≠ rbk ∧ b ≠ ab) (hG : ∀ g, g < N → (InGrp D u g ↔ rf g = true ∧ askB D g = true))
    (hQ : ∀ (x41 x42 x440 x441 x442 x443 x444 x445 x446 x447 x448 x449 x450 x451 x452 x453 x454 x455 x456 x457 x458 x459 x460 x461 x462 x463 x464 x465 x466 x467 x468 x469 x470 : Value) (wr : World), (∃ M8, wr.ownsRow w17.heap.size 21 1 x41 (grpOf D u).length (I32s (grpOf D u)) ∧ MembAt D uL wb N (mOf D uL (i + 1)) M8 wr ∧ (∀ b, M8 b → Mm b ∨ (w17.heap.size ≤ b ∧ b < wr.heap.size)) ∧ KeepOff (fun b => b = wb ∨ Mm b) w17 wr) → Q .normal ⟨#[e0, e1, e2, e3, e4, e5, e6, e7, e8, e9, e10, e11, e12, e13, e14, e15, e16, e17, e18, e19, e20, e21, e22, e23, e24, e25, (.int .i64 (N : Int)), (.slice (some ⟨ab, 0, none⟩) N N), e28, e29, (.slice (some ⟨wb, 0, none⟩) N N), (.int .i64 (i : Int)), e32, e33, (.slice (some ⟨rbk, 0, none⟩) N N), e35, e36, e37, e38, e39, e40, x41, x42, e43, e44, e45, e46, e47, e48, e49, e50, e51, e52, e53, e54, e55, e56, e57, e58, e59, e60, e61, e62, e63, e64, e65, e66, e67, e68, e69, e70, e71, e72, e73, e74, e75, e76, e77, e78, e79, e80, e81, e82, e83, e84, e85, e86, e87, e88, e89, e90, e91, e92, e93, e94, e95, e96, e97, e98, e99, e100, e101, e102, e103, e104, e105, e106, e107, e108, e109, e110, e111, e112, e113, e114, e115, e116, e117, e118, e119, e120, e121, e122, e123, e124, e125, e126, e127, e128, e129, e130, e131, e132, e133, e134, e135, e136, e137, e138, e139, e140, e141, e142, e143, e144, e145, e146, e147, e148, e149, e150, e151, e152, e153, e154, e155, e156, e157, e158, e159, e160, e161, e162, e163, e164, e165, e166, e167, e168, e169, e170, e171, e172, e173, e174, e175, e176, e177, e178, e179, e180, e181, e182, e183, e184, e185, e186, e187, e188, e189, e190, e191, e192, e193, e194, e195, e196, e197, e198, e199, e200, e201, e202, e203, e204, e205, e206, e207, e208, e209, e210, e211, e212, e213, e214, e215, e216, e217, e218, e219, e220, e221, e222, e223, e224, e225, e226, e227, e228, e229, e230, e231, e232, e233, e234, e235, e236, e237, e238, e239, e240, e241, e242, e243, e244, e245, e246, e247, e248, e249, e250, e251, e252, e253, e254, e255, e256, e257, e258, e259, e260, e261, e262, e263, e264, e265, e266, e267, e268, e269, e270, e271, e272, e273, e274, e275, e276, e277, e278, e279, e280, e281, e282, e283, e284, e285, e286, e287, e288, e289, e290, e291, e292, e293, e294, e295, e296, e297, e298, e299, e300, e301, e302, e303, e304, e305, e306, e307, e308, e309, e310, e311, e312, e313, e314, e315, e316, e317, e318, e319, e320, e321, e322, e323, e324, e325, e326, e327, e328, e329, e330, e331, e332, e333, e334, e335, e336, e337, e338, e339, e340, e341, e342, e343, e344, e345, e346, e347, e348, e349, e350, e351, e352, e353, e354, e355, e356, e357, e358, e359, e360, e361, e362, e363, e364, e365, e366, e367, e368, e369, e370, e371, e372, e373, e374, e375, e376, e377, e378, e379, e380, e381, e382, e383, e384, e385, e386, e387, e388, e389, e390, e391, e392, e393, e394, e395, e396, e397, e398, e399, e400, e401, e402, e403, e404, e405, e406, e407, e408, e409, e410, e411, e412, e413, e414, e415, e416, e417, e418, e419, e420, e421, e422, e423, e424, e425, e426, e427, e428, e429, e430, e431, e432, e433, e434, e435, e436, e437, e438, e439, x440, x441, x442, x443, x444, x445, x446, x447, x448, x449, x450, x451, x452, x453, x454, x455, x456, x457, x458, x459, x460, x461, x462, x463, x464, x465, x466, x467, x468, x469, x470, e471, e472, e473, e474, e475, e476, e477, e478, e479, e480, e481, e482, e483, e484, e485, e486, e487, e488, e489, e490, e491, e492, e493, e494, e495, e496, e497, e498, e499, e500, e501, e502, e503, e504, e505, e506, e507, e508, e509, e510, e511, e512, e513, e514, e515, e516, e517, e518, e519, e520, e521, e522, e523, e524, e525, e526, e527, e528, e529, e530, e531], []⟩ wr) :
    Code.wp Ybaz.prog (cB22 Ybaz.f5) Q ⟨#[e0, e1, e2, e3, e4, e5, e6, e7, e8, e9, e10, e11, e12, e13, e14, e15, e16, e17, e18, e19, e20, e21, e22, e23, e24, e25, (.int .i64 (N : Int)), (.slice (some ⟨ab, 0, none⟩) N N), e28, e29, (.slice (some ⟨wb, 0, none⟩) N N), (.int .i64 (i : Int)), e32, e33, (.slice (some ⟨rbk, 0, none⟩) N N), e35, e36, e37, e38, e39, e40, (.slice none 0 0), (.int .i64 0), e43, e44, e45, e46, e47, e48, e49, e50, e51, e52, e53, e54, e55, e56, e57, e58, e59, e60, e61, e62, e63, e64, e65, e66, e67, e68, e69, e70, e71, e72, e73, e74, e75, e76, e77, e78, e79, e80, e81, e82, e83, e84, e85, e86, e87, e88, e89, e90, e91, e92, e93, e94, e95, e96, e97, e98, e99, e100, e101, e102, e103, e104, e105, e106, e107, e108, e109, e110, e111, e112, e113, e114, e115, e116, e117, e118, e119, e120, e121, e122, e123, e124, e125, e126, e127, e128, e129, e130, e131, e132, e133, e134, e135, e136, e137, e138, e139, e140, e141, e142, e143, e144, e145, e146, e147, e148, e149, e150, e151, e152, e153, e154, e155, e156, e157, e158, e159, e160, e161, e162, e163, e164, e165, e166, e167, e168, e169, e170, e171, e172, e173, e174, e175, e176, e177, e178, e179, e180, e181, e182, e183, e184, e185, e186, e187, e188, e189, e190, e191, e192, e193, e194, e195, e196, e197, e198, e199, e200, e201, e202, e203, e204, e205, e206, e207, e208, e209, e210, e211, e212, e213, e214, e215, e216, e217, e218, e219, e220, e221, e222, e223, e224, e225, e226, e227, e228, e229, e230, e231, e232, e233, e234, e235, e236, e237, e238, e239, e240, e241, e242, e243, e244, e245, e246, e247, e248, e249, e250, e251, e252, e253, e254, e255, e256, e257, e258, e259, e260, e261, e262, e263, e264, e265, e266, e267, e268, e269, e270, e271, e272, e273, e274, e275, e276, e277, e278, e279, e280, e281, e282, e283, e284, e285, e286, e287, e288, e289, e290, e291, e292, e293, e294, e295, e296, e297, e298, e299, e300, e301, e302, e303, e304, e305, e306, e307, e308, e309, e310, e311, e312, e313, e314, e315, e316, e317, e318, e319, e320, e321, e322, e323, e324, e325, e326, e327, e328, e329, e330, e331, e332, e333, e334, e335, e336, e337, e338, e339, e340, e341, e342, e343, e344, e345, e346, e347, e348, e349, e350, e351, e352, e353, e354, e355, e356, e357, e358, e359, e360, e361, e362, e363, e364, e365, e366, e367, e368, e369, e370, e371, e372, e373, e374, e375, e376, e377, e378, e379, e380, e381, e382, e383, e384, e385, e386, e387, e388, e389, e390, e391, e392, e393, e394, e395, e396, e397, e398, e399, e400, e401, e402, e403, e404, e405, e406, e407, e408, e409, e410, e411, e412, e413, e414, e415, e416, e417, e418, e419, e420, e421, e422, e423, e424, e425, e426, e427, e428, e429, e430, e431, e432, e433, e434, e435, e436, e437, e438, e439, e440, e441, e442, e443, e444, e445, e446, e447, e448, e449, e450, e451, e452, e453, e454, e455, e456, e457, e458, e459, e460, e461, e462, e463, e464, e465, e466, e467, e468, e469, e470, e471, e472, e473, e474, e475, e476, e477, e478, e479, e480, e481, e482, e483, e484, e485, e486, e487, e488, e489, e490, e491, e492, e493, e494, e495, e496, e497, e498, e499, e500, e501, e502, e503, e504, e505, e506, e507, e508, e509, e510, e511, e512, e513, e514, e515, e516, e517, e518, e519, e520, e521, e522, e523, e524, e525, e526, e527, e528, e529, e530, e531], []⟩ w17 := by
  conv => arg 2; whnf
  have hrw : rbk ≠ wb := fun e => by
    obtain ⟨c, h1, _⟩ := hr
    obtain ⟨c', h2, _⟩ := hm
    rw [e, h2] at h1; simp at h1
  have haw : ab ≠ wb := fun e => by
    obtain ⟨c, h1, _⟩ := ha
    obtain ⟨c', h2, _⟩ := hm
    rw [e, h2] at h1; simp at h1
  have hrl : rbk < w17.heap.size := by obtain ⟨c, h1, _⟩ := hr; exact heap_lt h1
  have hal : ab < w17.heap.size := by obtain ⟨c, h1, _⟩ := ha; exact heap_lt h1
  have Hr := hid hr; have Ha := hid ha; have Hm := hid hm; have HMm := hid hMm; have HG := hid hG; have HQ := hid hQ; have Hu := hid hu; have HNn := hid hNn
  clear hr ha hm hMm hG hQ hu hNn
  go_wp2
  go_loopw [41, 42] (fun vg vt wr => ∃ (t : Nat) (M8 : Nat → Prop), t ≤ N ∧ vt = .int .i64 t ∧ wr.ownsRow w17.heap.size 21 1 vg (grpTo D u t).length (I32s (grpTo D u t)) ∧ MembAt D uL wb N (wantTo D uL i t) M8 wr ∧ (∀ b, M8 b → Mm b ∨ (w17.heap.size ≤ b ∧ b < wr.heap.size)) ∧ (∀ b, vg.ownBlock = some b → ¬ M8 b) ∧ KeepOff (fun b => b = wb ∨ Mm b) w17 wr) (fun _ vt _ => N - (intOf vt).toNat)
  case atStart => exact ⟨0, Mm, by omega, rfl, by simpa [grpTo] using World.ownsRow_nil w17 w17.heap.size 21 1, Hm.out.congr (fun g _ => by unfold wantTo; rw [if_neg (by omega)]), fun b hb => .inl hb, fun b hb => by simp [Value.ownBlock] at hb, KeepOff.refl _ _⟩
  case round =>
    generalize wr = wq at *
    obtain ⟨t, M8, ht, rfl, hO, hM8, hMb, hdis, hK⟩ := hrel
    obtain ⟨ga, gc, rfl⟩ := own_slice' hO
    have HO := hid hO; have HM8 := hid hM8; have HMb := hid hMb; have Hdis := hid hdis; have HK := hid hK
    have hszq := hK.size
    have hgl := grpTo_len D u t
    obtain ⟨GL, hGL⟩ : ∃ x, (grpTo D u t).length = x := ⟨_, rfl⟩
    rw [hGL] at hgl ⊢
    have HGL := hid hGL
    by_cases htN : t < N
    · have hti : (t : Int) < (N : Int) := by omega
      have hrq : AskAt rbk N rf wq := Hr.out.move (hK.block rbk hrl (fun e => by rcases e with e | e; exact hrw e; exact (HMm.out rbk e).2.1 rfl))
      have haq : AskAt ab N (askB D) wq := Ha.out.move (hK.block ab hal (fun e => by rcases e with e | e; exact haw e; exact (HMm.out ab e).2.2 rfl))
      have cr : wq.cell? ⟨rbk, t, none⟩ = some (.bool (rf t)) := by obtain ⟨c, h1, _, h3⟩ := hrq; rw [cell_of h1]; exact h3 t htN
      have ca : wq.cell? ⟨ab, t, none⟩ = some (.bool (askB D t)) := by obtain ⟨c, h1, _, h3⟩ := haq; rw [cell_of h1]; exact h3 t htN
      have hGt := HG.out t htN
      have hwt := wrap32_nat t (by omega)
      have hwi := wrap32_nat i (by omega)
      by_cases hin : InGrp D u t
      · obtain ⟨e1, e2⟩ := hGt.1 hin
        rw [e1] at cr
        rw [e2] at ca
        have hGL' := hO
        rw [hGL] at hGL'
        obtain ⟨ga', gc', w3, va, vc, va', vc', w8, k1, k2, k3, k4, k5, k6, M9, k7, k8, k9, k10⟩ := gsStep (i := i) hGL' hM8 (fun b hb => by rcases hMb b hb with h | h; have := (HMm.out b h).1; omega; omega) (fun b hb => hdis b (by rw [hGL]; exact hb)) htN hszq (by omega) (by omega) (Nat.le_trans (wantTo_len D uL i t t) (by omega))
        obtain ⟨Lg, hLg⟩ : ∃ x, (wantTo D uL i t t).length = x := ⟨_, rfl⟩
        rw [hLg] at k2 k3 k4 k6 k7 k8 k10
        obtain ⟨v3, hv3⟩ : ∃ v3, v3 = w8.setCell ⟨wb, t, none⟩ (.slice va' (Lg + 1) vc') := ⟨_, rfl⟩
        rw [← hv3] at k6 k7 k8 k10
        have hK3 : KeepOff (fun b => b = wb ∨ Mm b) w17 v3 := hK.trans k10 (fun b hb e => by
          rcases e with e | e | e
          · exact .inl e
          · rcases hMb b e with h | h
            · exact .inr h
            · omega
          · have := (hO.lt b (by rw [hGL]; exact e)).1; omega)
        have hfin : ∃ (t' : Nat) (M8 : Nat → Prop), t' ≤ N ∧ Value.int .i64 ((t : Int) + 1) = .int .i64 t' ∧ v3.ownsRow w17.heap.size 21 1 (.slice ga' (GL + 1) gc') (grpTo D u t').length (I32s (grpTo D u t')) ∧ MembAt D uL wb N (wantTo D uL i t') M8 v3 ∧ (∀ b, M8 b → Mm b ∨ (w17.heap.size ≤ b ∧ b < v3.heap.size)) ∧ (∀ b, (Value.slice ga' (GL + 1) gc').ownBlock = some b → ¬ M8 b) ∧ KeepOff (fun b => b = wb ∨ Mm b) w17 v3 := by
          refine ⟨t + 1, M9, by omega, by go_num, ?_, ?_, fun b hb => ?_, k9, hK3⟩
          · rw [grpTo_succ, if_pos hin, List.length_append, I32s, List.map_append, hGL]; exact k6
          · rw [wantTo_in Hu.out hin] at k7; exact k7
          · have hs := k10.size
            rcases k8 b hb with h | h
            · rcases hMb b h with h | h
              · exact .inl h
              · exact .inr (by omega)
            · exact .inr (by omega)
        have HFin := hid hfin; have Hv3 := hid hv3
        have Hk1 := hid k1; have Hk3 := hid k3
        clear hfin k1 k3 k6 k7 k8 k9 k10 hK3 hGL' hGL hLg hv3 e1 e2 hGt hrq haq hO hM8 hMb hdis hK hin
        go_upto_region 105 with fail
        go_upto_region 106 with (at_builtin; refine wpList_append_run (u := .slice ga GL gc) (y := .slice (some ⟨wq.heap.size, 0, none⟩) 1 1) (v' := .slice ga' (GL + 1) gc') (w' := w3) rfl _ _ 77 rfl rfl rfl Hk1.out ?_)
        go_wp2_with (at_builtin; refine wpList_append_run (u := .slice va Lg vc) (y := .slice (some ⟨w3.heap.size, 0, none⟩) 1 1) (v' := .slice va' (Lg + 1) vc') (w' := w8) rfl _ _ 77 rfl rfl rfl Hk3.out ?_)
        rw [← Hv3.out]
        go_roundw
        case rel => exact HFin.out
        case measure => simp [intOf] <;> omega
      · have hfin : ∃ (t' : Nat) (M8 : Nat → Prop), t' ≤ N ∧ Value.int .i64 ((t : Int) + 1) = .int .i64 t' ∧ wq.ownsRow w17.heap.size 21 1 (.slice ga GL gc) (grpTo D u t').length (I32s (grpTo D u t')) ∧ MembAt D uL wb N (wantTo D uL i t') M8 wq ∧ (∀ b, M8 b → Mm b ∨ (w17.heap.size ≤ b ∧ b < wq.heap.size)) ∧ (∀ b, (Value.slice ga GL gc).ownBlock = some b → ¬ M8 b) ∧ KeepOff (fun b => b = wb ∨ Mm b) w17 wq := by
          refine ⟨t + 1, M8, by omega, by go_num, ?_, ?_, hMb, by rw [← hGL]; exact hdis, hK⟩
          · rw [grpTo_succ, if_neg hin, List.append_nil, hGL]; rw [hGL] at hO; exact hO
          · rw [← wantTo_out Hu.out hin]; exact hM8
        have HFin := hid hfin
        clear hfin hGL hrq haq hO hM8 hMb hdis hK
        cases hrt : rf t with
        | false =>
          rw [hrt] at cr
          clear hGt hin hrt
          go_wp2
          go_roundw
          case rel => exact HFin.out
          case measure => simp [intOf] <;> omega
        | true =>
          have hat : askB D t = false := by
            cases h : askB D t with
            | false => rfl
            | true => exact absurd (hGt.2 ⟨hrt, h⟩) hin
          rw [hrt] at cr
          rw [hat] at ca
          clear hGt hin hrt hat
          go_wp2
          go_roundw
          case rel => exact HFin.out
          case measure => simp [intOf] <;> omega
    · have hti : ¬ (t : Int) < (N : Int) := by omega
      obtain rfl : t = N := by omega
      clear hO hM8 hMb hdis hK hGL
      go_wp2
      refine HQ.out _ _ _ _ _ _ _ _ _ _ _ _ _ _ _ _ _ _ _ _ _ _ _ _ _ _ _ _ _ _ _ _ _ wq ⟨M8, ?_, HM8.out.congr (fun g hg => by unfold wantTo; rw [if_pos hg]), HMb.out, HK.out⟩
      have h := HO.out
      rw [HGL.out] at h
      have e : grpTo D u t = grpOf D u := by rw [← HNn.out]; rfl
      rw [← e, HGL.out]; exact h
end Go.Proofs.YbulkchuuGreatDoor
