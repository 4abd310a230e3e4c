import Derived.Test.YbulkchuuGreatDoorN14
namespace Go.Proofs.YbulkchuuGreatDoor
open Go.RowKit Go.Maps Classical
set_option linter.unusedVariables false
set_option linter.unusedSimpArgs false
set_option maxRecDepth 100000

set_option maxHeartbeats 64000000 in
theorem nB12 {e0 e1 e2 e3 e4 e5 e6 e7 e8 e9 e10 e13 e14 e19 e20 e21 e22 e23 e24 e25 e26 e27 e28 e29 e30 e31 e32 e33 e34 e35 e36 e37 e38 e39 e40 e41 e42 e43 e44 e45 e46 e47 e48 e49 e50 e51 e52 e53 e54 e55 e56 e57 e58 e59 e60 e61 e62 e63 e64 e65 e66 e67 e68 e69 e70 e71 e72 e73 e74 e75 e76 e77 e78 e79 e80 e81 e82 e83 e84 e85 e86 e87 e88 e89 e90 e91 e92 e93 e94 e95 e96 e97 e98 e99 e100 e101 e102 e103 e104 e105 e106 e107 e108 e109 e110 e111 e112 e113 e114 e115 e116 e117 e118 e119 e120 e121 e122 e123 e124 e125 e126 e127 e128 e129 e130 e131 e132 e133 e134 e135 e136 e137 e138 e139 e140 e141 e142 e143 e144 e145 e146 e147 e148 e149 e150 e151 e152 e153 e154 e155 e156 e157 e158 e159 e160 e161 e162 e163 e164 e165 e166 e167 e168 e169 e170 e171 e175 e176 e177 e178 e179 e180 e181 e182 e183 e184 e185 e186 e187 e188 e189 e190 e191 e192 e193 e194 e195 e196 e197 e198 e199 e200 e201 e202 e203 e204 e205 e206 e207 e208 e209 e210 e211 e212 e213 e214 e215 e216 e217 e218 e219 e220 e221 e222 e223 e224 e225 e226 e227 e228 e229 e230 e231 e232 e233 e234 e235 e236 e237 e238 e239 e240 e241 e242 e243 e244 e245 e246 e247 e248 e249 e250 : Value} (Q : Exit → Act → World → Prop) (Bd fd pb mb N fbk k cb gu uc ob ab2 M : Nat) (D : DIn) (uL : List ByteArray) (P0 : Nat → Prop) (w14 : World) (hk22 : k < 2) (hN255 : N ≤ 255) (hN : D.n = (N : Int)) (hNt : D.n.toNat = N) (hsm : Small D) (hM6 : M ≤ 600000) (hul : uL.length = M + 2) (hun1 : ∀ u ∈ uL, u.size ≤ 140737488355328) (hP0l : ∀ b, P0 b → b < w14.heap.size ∧ b ≠ fd) (hPs : P0 gu ∧ P0 cb ∧ P0 ab2 ∧ P0 ob ∧ P0 pb ∧ P0 mb) (hpos : Bd ≤ cb ∧ cb < fd ∧ gu < fd ∧ fd < ab2) (hpfd : fd < pb ∧ fd < mb ∧ ab2 < pb ∧ pb < mb ∧ mb < w14.heap.size ∧ ob < pb ∧ ab2 < ob) (hguc14 : ∀ i u, uL[i]? = some u → w14.cell? ⟨gu, i, none⟩ = some (.string u)) (hfile : FileAt Bd fbk D (listOf D) (withinOf D) w14) (hob14 : w14.heap[ob]? = some (.cells #[.slice (some ⟨ab2, 0, none⟩) N N] 84 (0, 0))) (hA14 : AskAt ab2 N (askB D) w14) (hcb14 : w14.cell? ⟨cb, 5 + k, none⟩ = some (.slice (some ⟨pb, 0, none⟩) (M + 2) (M + 2))) (hcb14m : w14.cell? ⟨cb, 7 + k, none⟩ = some (.slice (some ⟨mb, 0, none⟩) N N)) (hL70 : L7 Bd fd pb mb N fbk D uL (M + 2) P0 (fun _ => False) (fun _ => False) w14 0 w14)
    (hQ : ∀ (x23 x24 x25 x27 x174 x175 x176 x177 x178 x179 x180 x181 x182 x183 x184 x185 x186 x187 x188 x189 x190 x191 x192 x193 x194 x195 x196 x197 x198 x199 x200 x201 x202 x203 x204 x205 x206 x207 x208 x209 x210 x211 x212 x213 x214 x215 x216 x217 x218 x219 x220 x221 x222 x223 x224 x225 x226 x227 x228 x229 x230 x231 : Value) (wr : World), (∃ G Mm, L7 Bd fd pb mb N fbk D uL (M + 2) P0 G Mm w14 (M + 2) wr) → Q .normal ⟨#[e0, e1, e2, e3, e4, e5, e6, e7, e8, e9, e10, (.slice (some ⟨gu, 0, none⟩) (M + 2) uc), (.pointer (some ⟨cb, 0, none⟩)), e13, e14, (.pointer (some ⟨fd, 0, none⟩)), (.int .i64 (k : Int)), (.pointer (some ⟨fbk, 0, none⟩)), (.pointer (some ⟨ob, 0, none⟩)), e19, e20, e21, e22, x23, x24, x25, e26, x27, e28, e29, e30, e31, e32, e33, e34, e35, e36, e37, e38, e39, e40, e41, e42, e43, e44, e45, e46, e47, e48, e49, e50, e51, e52, e53, e54, e55, e56, e57, e58, e59, e60, e61, e62, e63, e64, e65, e66, e67, e68, e69, e70, e71, e72, e73, e74, e75, e76, e77, e78, e79, e80, e81, e82, e83, e84, e85, e86, e87, e88, e89, e90, e91, e92, e93, e94, e95, e96, e97, e98, e99, e100, e101, e102, e103, e104, e105, e106, e107, e108, e109, e110, e111, e112, e113, e114, e115, e116, e117, e118, e119, e120, e121, e122, e123, e124, e125, e126, e127, e128, e129, e130, e131, e132, e133, e134, e135, e136, e137, e138, e139, e140, e141, e142, e143, e144, e145, e146, e147, e148, e149, e150, e151, e152, e153, e154, e155, e156, e157, e158, e159, e160, e161, e162, e163, e164, e165, e166, e167, e168, e169, e170, e171, (.slice (some ⟨gu, 0, none⟩) (M + 2) uc), (.int .i64 ((M : Int) + 2)), x174, x175, x176, x177, x178, x179, x180, x181, x182, x183, x184, x185, x186, x187, x188, x189, x190, x191, x192, x193, x194, x195, x196, x197, x198, x199, x200, x201, x202, x203, x204, x205, x206, x207, x208, x209, x210, x211, x212, x213, x214, x215, x216, x217, x218, x219, x220, x221, x222, x223, x224, x225, x226, x227, x228, x229, x230, x231, e232, e233, e234, e235, e236, e237, e238, e239, e240, e241, e242, e243, e244, e245, e246, e247, e248, e249, e250], []⟩ wr) :
    Code.wp Ybaz.prog (nC12 Ybaz.f14) Q ⟨#[e0, e1, e2, e3, e4, e5, e6, e7, e8, e9, e10, (.slice (some ⟨gu, 0, none⟩) (M + 2) uc), (.pointer (some ⟨cb, 0, none⟩)), e13, e14, (.pointer (some ⟨fd, 0, none⟩)), (.int .i64 (k : Int)), (.pointer (some ⟨fbk, 0, none⟩)), (.pointer (some ⟨ob, 0, none⟩)), e19, e20, e21, e22, e23, e24, e25, e26, e27, e28, e29, e30, e31, e32, e33, e34, e35, e36, e37, e38, e39, e40, e41, e42, e43, e44, e45, e46, e47, e48, e49, e50, e51, e52, e53, e54, e55, e56, e57, e58, e59, e60, e61, e62, e63, e64, e65, e66, e67, e68, e69, e70, e71, e72, e73, e74, e75, e76, e77, e78, e79, e80, e81, e82, e83, e84, e85, e86, e87, e88, e89, e90, e91, e92, e93, e94, e95, e96, e97, e98, e99, e100, e101, e102, e103, e104, e105, e106, e107, e108, e109, e110, e111, e112, e113, e114, e115, e116, e117, e118, e119, e120, e121, e122, e123, e124, e125, e126, e127, e128, e129, e130, e131, e132, e133, e134, e135, e136, e137, e138, e139, e140, e141, e142, e143, e144, e145, e146, e147, e148, e149, e150, e151, e152, e153, e154, e155, e156, e157, e158, e159, e160, e161, e162, e163, e164, e165, e166, e167, e168, e169, e170, e171, (.slice (some ⟨gu, 0, none⟩) (M + 2) uc), (.int .i64 ((M : Int) + 2)), (.int .i64 0), e175, e176, e177, e178, e179, e180, e181, e182, e183, e184, e185, e186, e187, e188, e189, e190, e191, e192, e193, e194, e195, e196, e197, e198, e199, e200, e201, e202, e203, e204, e205, e206, e207, e208, e209, e210, e211, e212, e213, e214, e215, e216, e217, e218, e219, e220, e221, e222, e223, e224, e225, e226, e227, e228, e229, e230, e231, e232, e233, e234, e235, e236, e237, e238, e239, e240, e241, e242, e243, e244, e245, e246, e247, e248, e249, e250], []⟩ w14 := by
  refine nq_mono (fn := Ybaz.f14) (K := fun a w => Q .normal a w) ?_ (fun _ _ h => h)
  conv => arg 2; whnf
  try dsimp only
  have hki : (k : Int) < 2 := by omega
  obtain ⟨hPgu', hPcb', hPab', hPob', hPpb', hPmb'⟩ := hPs
  obtain ⟨hcbB, hcbfd, hgufd, hfdab⟩ := hpos
  have HN := hid hN; have HNt := hid hNt; have Hsm := hid hsm; have Hul := hid hul; have Hun1 := hid hun1; have HP0l := hid hP0l; have Hpfd := hid hpfd; have Hguc14 := hid hguc14; have Hfile := hid hfile; have Hob14 := hid hob14; have HA14 := hid hA14; have Hcb14 := hid hcb14; have Hcb14m := hid hcb14m; have HL70 := hid hL70; have HQ := hid hQ
  clear hN hNt hsm hul hun1 hP0l hpfd hguc14 hfile hob14 hA14 hcb14 hcb14m hL70 hQ
  go_wp2
  go_loopw [174] (fun vk wr => ∃ (i : Nat) (G Mm : Nat → Prop), i ≤ M + 2 ∧ vk = .int .i64 i ∧ L7 Bd fd pb mb N fbk D uL (M + 2) P0 G Mm w14 i wr) (fun vk _ => M + 2 - (intOf vk).toNat)
  case atStart => exact ⟨0, _, _, by omega, rfl, HL70.out⟩
  case round =>
    generalize wr = v0 at *
    obtain ⟨i, G, Mm, hiU, rfl, hL7⟩ := hrel
    have HL7 := hid hL7
    clear hL7
    by_cases hiM : i < M + 2
    · have hiMi : (i : Int) < (M : Int) + 2 := by omega
      obtain ⟨u, hu⟩ : ∃ u, uL[i]? = some u := ⟨_, List.getElem?_eq_getElem (by rw [Hul.out]; exact hiM)⟩
      have hus := Hun1.out u (List.mem_of_getElem? hu)
      obtain ⟨q1, q2, q3, q4, q5, q6, q7⟩ := Hpfd.out
      have hPgu : P0 gu := hPgu'
      have hPcb : P0 cb := hPcb'
      have hPab : P0 ab2 := hPab'
      have hPob : P0 ob := hPob'
      have hPpb : P0 pb := hPpb'
      have hPmb : P0 mb := hPmb'
      have hgc : v0.cell? ⟨gu, i, none⟩ = some (.string u) := (cell_eq (HL7.out.kp gu ⟨hPgu, by omega, by omega⟩) i).trans (Hguc14.out i u hu)
      have hf0 := Hfile.out.below HL7.out.below
      obtain ⟨lmb, Dl, kk, hc5, hlB, hOl, hatl⟩ := hf0.listing
      obtain ⟨LA, LC, hat, hRd⟩ := hatl u (by unfold maxLen; omega)
      obtain ⟨nv, lv, mv, wv, gr, se, k0, xs0, g1, g2, g3, g4, g5⟩ := HL7.out.found
      have hlk := look85 hOl (by unfold maxLen; omega) hat
      have hsz0 := HL7.out.below.size
      have hH32 := identify32 (fbk) fd lmb u (.slice LA (listOf D u).length LC) nv lv mv gr wv se v0 hc5 hlk ⟨_, _, _, rfl⟩ g1
      have H32 := hid hH32; have Hf0 := hid hf0; have HRd := hid hRd; have G1 := hid g1; have G2 := hid g2; have G3 := hid g3; have G4 := hid g4; have G5 := hid g5; have Hu := hid hu
      clear hH32 hf0 hRd g1 g2 g3 g4 g5 hlk hOl hatl hat hc5 hu
      go_wp2_with fail
      refine H32.out.mono ?_
      rintro e u1 ⟨rfl, hb1, hF1⟩
      have hS : ∀ b, (P0 b ∨ G b ∨ Mm b) → b < v0.heap.size ∧ b ≠ fd := fun b hb => by
        rcases hb with h | h | h
        · have := HP0l.out b h; omega
        · have := HL7.out.g b h; omega
        · have := HL7.out.m b h; omega
      have hgrfd : gr.ownBlock ≠ some fd := fun e => own_tag G2.out G1.out (by decide) e
      have hsefd : se.ownBlock ≠ some fd := fun e => by
        obtain ⟨_, c, hc⟩ := G3.out.lt e
        have h1 := G1.out
        unfold PrB at h1
        rw [hc] at h1; simp at h1
      have hO1 := own_move (w' := u1) G2.out (fun g hg hl => hF1.block g hl (fun e => hgrfd (by rw [hg, e])))
      have hC1 := G3.out.move (w' := u1) (fun b hb hl => hF1.block b hl (fun e => hsefd (by rw [hb, e])))
      have hBd1 : Below Bd v0 u1 := hF1.below (by omega) (fun b hb e => by omega)
      have hW1 : WithinAt Bd (fbk) N (withinOf D) u1 := by
        have := Hf0.out.within.below hBd1
        rw [HNt.out] at this
        exact this
      have hlst := Hf0.out.lsts u
      rw [HNt.out] at hlst
      have hH33 := walkUp33s (fun b => P0 b ∨ G b ∨ Mm b) Bd fd (fbk) N (.string u) (.slice LA (listOf D u).length LC) gr (.bool false) se k0 xs0 LA LC (listOf D u) (withinOf D) u1 (by omega) hN255 (by have := hF1.size; omega) rfl hb1 hO1 hC1 (HRd.out.below hBd1) hlst.1 hlst.2 hW1 (fun b hb => by have := hS b hb; have := hF1.size; omega) (fun h => (hS fd h).2 rfl) G4.out G5.out
      have H33 := hid hH33; have HF1 := hid hF1; have HS := hid hS; have HBd1 := hid hBd1
      clear hH33 hb1 hF1 hO1 hC1 hW1 hlst hS hBd1 hgrfd hsefd
      go_wp2_with fail
      refine H33.out.mono ?_
      rintro e u2 ⟨rfl, gr2, se2, gl, hb2, hO2, hC2, hpw, hmem2, hBd2, hK2, hg2, hs2⟩
      have hK02 : Kp (fun b => P0 b ∨ G b ∨ Mm b) v0 u2 := fun b hb => (hK2 b hb).trans (HF1.out.block b (HS.out b hb).1 (fun e => (HS.out b hb).2 e))
      have hob2 : u2.heap[ob]? = some (.cells #[.slice (some ⟨ab2, 0, none⟩) N N] 84 (0, 0)) := (hK02 ob (.inl hPob)).trans ((HL7.out.kp ob ⟨hPob, by omega, by omega⟩).trans Hob14.out)
      have hA2 : AskAt ab2 N (askB D) u2 := HA14.out.move ((hK02 ab2 (.inl hPab)).trans (HL7.out.kp ab2 ⟨hPab, by omega, by omega⟩))
      have hglr : ∀ x ∈ gl, 0 ≤ x ∧ x < (N : Int) := fun x hx => by
        have := rch_in Hsm.out u x ((hmem2 x).1 hx)
        have := HN.out
        omega
      have hgll : gl.length ≤ N := pigeon N gl (pw_mono (fun a b h => by omega) _ hpw) hglr
      have hH34 := delete34 Bd ob ab2 N N (askB D) gl gr2 u2 hO2 hglr hob2 hA2 hN255 (by omega)
      have hgrp := filter_grp Hsm.out u gl hpw hmem2
      have hc23 : u2.cell? ⟨fd, 3, none⟩ = some gr2 := by rw [cell_of hb2]; rfl
      obtain ⟨g2a, g2c, rfl⟩ := own_slice' hO2
      have H34 := hid hH34; have Hgrp := hid hgrp; have Hb2 := hid hb2; have HO2 := hid hO2; have HC2 := hid hC2; have HBd2 := hid hBd2; have HK02 := hid hK02; have Hg2 := hid hg2; have Hs2 := hid hs2
      clear hH34 hgrp hb2 hO2 hC2 hpw hmem2 hBd2 hK2 hK02 hg2 hs2 hob2 hA2 hglr
      go_wp2_with fail
      refine H34.out.mono ?_
      rintro e u3 ⟨v3, rfl, ho3, hvb3, ⟨xs3, hgr3⟩, hF3⟩
      rw [Hgrp.out] at ho3
      obtain ⟨v3a, v3c, rfl⟩ := own_slice' ho3
      have hGL : (grpOf D u).length ≤ N := by
        have := List.length_filter_le (fun x => askB D x.toNat) gl
        rw [Hgrp.out] at this
        omega
      have hgrS : ∀ b, (P0 b ∨ G b ∨ Mm b) → ¬ (Value.slice g2a gl.length g2c).ownBlock = some b := fun b hb e => Hg2.out b e hb
      have hK03 : Kp (fun b => P0 b ∨ G b ∨ Mm b) v0 u3 := fun b hb => (hF3.block b (by have := (HS.out b hb).1; have := HF1.out.size; have := HBd2.out.size; omega) (hgrS b hb)).trans (HK02.out b hb)
      have hfd3 : u3.heap[fd]? = some (.cells #[.string u, .slice LA (listOf D u).length LC, .pointer (some ⟨fbk, 5, none⟩), .slice g2a gl.length g2c, .bool true, se2] 109 (0, 0)) := hF3.keep Hb2.out (fun e => own_tag HO2.out Hb2.out (by decide) e)
      have hC3 : Clear Bd se2 u3 := HC2.out.move (fun b hb hl => hF3.block b hl (fun e => by
        obtain ⟨_, c, hc⟩ := HC2.out.lt hb
        exact own_tag HO2.out hc (by decide) e))
      have hcb3 : u3.cell? ⟨cb, 5 + k, none⟩ = some (.slice (some ⟨pb, 0, none⟩) (M + 2) (M + 2)) := (cell_eq ((hK03 cb (.inl hPcb)).trans (HL7.out.kp cb ⟨hPcb, by omega, by omega⟩)) _).trans Hcb14.out
      have hd1 : u3.cell? ⟨fd, 1, none⟩ = some (.slice LA (listOf D u).length LC) := by rw [cell_of hfd3]; rfl
      have hd2 : u3.cell? ⟨fd, 2, none⟩ = some (.pointer (some ⟨fbk, 5, none⟩)) := by rw [cell_of hfd3]; rfl
      have hBd3 : Below Bd v0 u3 := (HBd1.out.trans HBd2.out).trans (hF3.below (by have := HF1.out.size; have := HBd2.out.size; omega) (fun b hb e => by have := (HO2.out.lt b e).1; omega))
      obtain ⟨cur3, hpc, hps, hpp⟩ := HL7.out.prin
      have hpb3 : u3.heap[pb]? = some (.cells cur3 109 (0, 0)) := (hK03 pb (.inl hPpb)).trans hpc
      have H36 := hid (clone36 Bd (.slice v3a (grpOf D u).length v3c) (grpOf D u) u3.drew ho3 (by omega))
      have hsz3 : v0.heap.size ≤ u3.heap.size := hBd3.size
      obtain ⟨LL, hLL⟩ : ∃ x, (listOf D u).length = x := ⟨_, rfl⟩
      obtain ⟨GL, hGLe⟩ : ∃ x, (grpOf D u).length = x := ⟨_, rfl⟩
      have hq : ∀ c, c < 6 → ∃ x, cur3[i * 6 + c]? = some x := fun c hc => ⟨_, Array.getElem?_eq_getElem (by omega)⟩
      obtain ⟨x0, hx0⟩ := hq 0 (by omega)
      obtain ⟨x1, hx1⟩ := hq 1 (by omega)
      obtain ⟨x2, hx2⟩ := hq 2 (by omega)
      obtain ⟨x3, hx3⟩ := hq 3 (by omega)
      obtain ⟨x4, hx4⟩ := hq 4 (by omega)
      obtain ⟨x5, hx5⟩ := hq 5 (by omega)
      rw [Nat.add_zero] at hx0
      have H36' : Calls Ybaz.prog 36 #[.slice v3a GL v3c] u3.drew fun e w' => ∃ v5a v5c, e = .returned (.slice v5a GL v5c) ∧ w'.ownsRow u3.heap.size 21 1 (.slice v5a GL v5c) GL (I32s (grpOf D u)) ∧ Below u3.heap.size u3 w' ∧ w'.cell? ⟨cb, 5 + k, none⟩ = some (.slice (some ⟨pb, 0, none⟩) (M + 2) (M + 2)) ∧ w'.cell? ⟨fd, 1, none⟩ = some (.slice LA LL LC) ∧ w'.cell? ⟨fd, 2, none⟩ = some (.pointer (some ⟨fbk, 5, none⟩)) ∧
          (w'.cell? ⟨pb, i * 6, none⟩ = some x0 ∧ w'.cell? ⟨pb, i * 6 + 1, none⟩ = some x1 ∧ w'.cell? ⟨pb, i * 6 + 2, none⟩ = some x2 ∧ w'.cell? ⟨pb, i * 6 + 3, none⟩ = some x3 ∧ w'.cell? ⟨pb, i * 6 + 4, none⟩ = some x4 ∧ w'.cell? ⟨pb, i * 6 + 5, none⟩ = some x5) ∧
          (w'.frozen? ⟨pb, i * 6, none⟩ = false ∧ w'.frozen? ⟨pb, i * 6 + 1, none⟩ = false ∧ w'.frozen? ⟨pb, i * 6 + 2, none⟩ = false ∧ w'.frozen? ⟨pb, i * 6 + 3, none⟩ = false ∧ w'.frozen? ⟨pb, i * 6 + 4, none⟩ = false ∧ w'.frozen? ⟨pb, i * 6 + 5, none⟩ = false) := by
        have := H36.out
        rw [hGLe] at this
        refine this.mono ?_
        rintro e w' ⟨v', rfl, ho, hb⟩
        obtain ⟨v5a, v5c, rfl⟩ := own_slice' ho
        have hbb : Below u3.heap.size u3 w' := ⟨hb.os, hb.tape, hb.output, hb.size, hb.block⟩
        have hpbl : pb < u3.heap.size := heap_lt hpb3
        have hpbw : w'.heap[pb]? = some (.cells cur3 109 (0, 0)) := (hbb.block pb hpbl).trans hpb3
        have hcl : cb < u3.heap.size := World.block_lt_of_cell? _ _ hcb3
        have hfl : fd < u3.heap.size := World.block_lt_of_cell? _ _ hd1
        refine ⟨v5a, v5c, rfl, ho, hbb, (hbb.cell (p := ⟨cb, 5 + k, none⟩) hcl).trans hcb3, by rw [← hLL]; exact (hbb.cell (p := ⟨fd, 1, none⟩) hfl).trans hd1, (hbb.cell (p := ⟨fd, 2, none⟩) hfl).trans hd2, ⟨by rw [cell_of hpbw]; exact hx0, by rw [cell_of hpbw]; exact hx1, by rw [cell_of hpbw]; exact hx2, by rw [cell_of hpbw]; exact hx3, by rw [cell_of hpbw]; exact hx4, by rw [cell_of hpbw]; exact hx5⟩, ⟨frozen_of hpbw _, frozen_of hpbw _, frozen_of hpbw _, frozen_of hpbw _, frozen_of hpbw _, frozen_of hpbw _⟩⟩
      have HH36 := hid H36'; have Ho3 := hid ho3; have HK03 := hid hK03; have Hfd3 := hid hfd3; have HC3 := hid hC3; have HBd3 := hid hBd3; have Hpp := hid hpp; have Hps := hid hps; have Hpb3 := hid hpb3; have Hgr3 := hid hgr3; have HF3 := hid hF3; have Hvb3 := hid hvb3; have HLL := hid hLL; have HGLe := hid hGLe; have HGLn := hid hGL
      rw [hLL] at hd1
      rw [hGLe]
      clear H36' H36 ho3 hK03 hfd3 hC3 hBd3 hpp hps hpb3 hgr3 hF3 hvb3 hpc hq hx0 hx1 hx2 hx3 hx4 hx5 hgrS hLL hGLe hGL H33 H34 H32 hc23
      go_upto_region 40 with fail
      go_cut [] from 187 to 204 (fun wx => ∃ v5a v5c u4, u4.ownsRow u3.heap.size 21 1 (.slice v5a GL v5c) GL (I32s (grpOf D u)) ∧ Below u3.heap.size u3 u4 ∧ wx = (((((u4.setCell ⟨pb, i * 6, none⟩ (.string u)).setCell ⟨pb, i * 6 + 1, none⟩ (.slice LA LL LC)).setCell ⟨pb, i * 6 + 2, none⟩ (.pointer (some ⟨fbk, 5, none⟩))).setCell ⟨pb, i * 6 + 3, none⟩ (.slice v5a GL v5c)).setCell ⟨pb, i * 6 + 4, none⟩ (.bool true)).setCell ⟨pb, i * 6 + 5, none⟩ (.slice none 0 0))
      case first =>
        have hcp : cb ≠ pb := by omega
        have hfp : fd ≠ pb := by omega
        go_region_held3 (fun w' => w'.cell? ⟨cb, 5 + k, none⟩ = some (.slice (some ⟨pb, 0, none⟩) (M + 2) (M + 2)) ∧ w'.cell? ⟨fd, 1, none⟩ = some (.slice LA LL LC) ∧ w'.cell? ⟨fd, 2, none⟩ = some (.pointer (some ⟨fbk, 5, none⟩))) (first | go_keep | exact ⟨cell_ne hcp (cell_ne hcp (cell_ne hcp (cell_ne hcp (cell_ne hcp (cell_ne hcp s1))))), cell_ne hfp (cell_ne hfp (cell_ne hfp (cell_ne hfp (cell_ne hfp (cell_ne hfp s2))))), cell_ne hfp (cell_ne hfp (cell_ne hfp (cell_ne hfp (cell_ne hfp (cell_ne hfp s3)))))⟩) (first | (go_at_call 36; refine HH36.out.mono ?_; rintro e u4 ⟨v5a, v5c, rfl, ho5, hb5, s1, s2, s3, ⟨t0, t1, t2, t3, t4, t5⟩, ⟨z0, z1, z2, z3, z4, z5⟩⟩; have Ho5 := hid ho5; have Hb5 := hid hb5; clear ho5 hb5))
        all_goals
          go_wp2_with fail
          go_meet
          case rel => exact ⟨_, _, _, Ho5.out, Hb5.out, rfl⟩
      case rest =>
        obtain ⟨v5a, v5c, u4, ho5, hb5, hwx5⟩ := hcut
        generalize hwxx : wc = v1 at *
        clear hwxx
        have hpl := HL7.out
        have hK04 : Kp (fun b => P0 b ∨ G b ∨ Mm b) v0 u4 := fun b hb => (hb5.block b (by have := (HS.out b hb).1; omega)).trans (HK03.out b hb)
        have hB04 : Below Bd v0 u4 := HBd3.out.trans ⟨hb5.os, hb5.tape, hb5.output, hb5.size, fun b hb => hb5.block b (by omega)⟩
        have hrow5 : u4.ownsRow 0 21 1 (.slice v5a GL v5c) (grpOf D u).length (I32s (grpOf D u)) := by rw [HGLe.out]; exact own_base ho5 (Nat.zero_le _)
        have hpb4 : u4.heap[pb]? = some (.cells cur3 109 (0, 0)) := (hb5.block pb (heap_lt Hpb3.out)).trans Hpb3.out
        have hPr1 := PrinAt.push (LC := LC) hpb4 Hps.out hiM (by omega) Hpp.out (fun b hb => hK04 b (.inr (.inl hb))) hB04 (fun b hb => by have := hpl.g b hb; omega) Hu.out HRd.out hrow5
        rw [HLL.out] at hPr1
        have hv1 : v1 = set6 u4 pb (i * 6) (.string u) (.slice LA LL LC) (.pointer (some ⟨fbk, 5, none⟩)) (.slice v5a GL v5c) (.bool true) (.slice none 0 0) := hwx5
        rw [← hv1] at hPr1
        have hk1 : ∀ b, b ≠ pb → v1.heap[b]? = u4.heap[b]? := fun b hb => by rw [hv1]; exact set6_other _ _ _ _ _ _ _ _ _ hb
        have hs1 : v1.heap.size = u4.heap.size := by rw [hv1]; exact set6_size _ _ _ _ _ _ _ _ _
        have hB1 : Below Bd v0 v1 := hB04.trans (by
          rw [hv1]; unfold set6
          have hBp : Bd ≤ pb := by omega
          exact ((((((Below.refl _ u4).setCell hBp _).setCell hBp _).setCell hBp _).setCell hBp _).setCell hBp _).setCell hBp _)
        have hsz4 := hb5.size
        have hM1 : MembAt D uL mb N (mOf D uL i) Mm v1 := hpl.memb.keep ((hk1 mb (by omega)).trans (hK04 mb (.inl hPmb))) (fun b hb => (hk1 b (by have := hpl.m b hb; omega)).trans (hK04 b (.inr (.inr hb)))) (fun b hb => hb)
        -- the groups' row, in the found principal's block
        have hgb : ∀ b, (Value.slice v3a GL v3c).ownBlock = some b → b < u3.heap.size ∧ b ≠ pb ∧ ¬ (P0 b ∨ G b ∨ Mm b) := fun b hb => by
          have h1 := Ho3.out
          rw [HGLe.out] at h1
          have h2 := (h1.lt b hb).2
          have h3 := Hvb3.out
          rw [HGLe.out] at h3
          rw [h3] at hb
          refine ⟨h2, fun e => Hg2.out b hb (.inl (by rw [e]; exact hPpb)), fun h => Hg2.out b hb h⟩
        have hrow1 : v1.ownsRow 0 21 1 (.slice v3a GL v3c) GL (I32s (grpOf D u)) := by
          have h1 := Ho3.out
          rw [HGLe.out] at h1
          exact own_base (own_move h1 (fun b hb hl => (hk1 b (hgb b hb).2.1).trans (hb5.block b hl))) (Nat.zero_le _)
        have hcbm : v1.cell? ⟨cb, 7 + k, none⟩ = some (.slice (some ⟨mb, 0, none⟩) N N) := (cell_eq ((hk1 cb (by omega)).trans ((hK04 cb (.inl hPcb)).trans (hpl.kp cb ⟨hPcb, by omega, by omega⟩))) _).trans Hcb14m.out
        have hmfd : ∀ b, Mm b → b < v1.heap.size := fun b hb => by have := hpl.m b hb; omega
        have HPr1 := hid hPr1; have Hk1 := hid hk1; have HB1' := hid hB1; have HM1 := hid hM1; have Hgb := hid hgb; have Hrow1 := hid hrow1; have Hcbm := hid hcbm; have HK04 := hid hK04; have Hb5 := hid hb5; have Hrow5 := hid ho5; have Hmfd := hid hmfd
        clear hPr1 hk1 hB1 hM1 hgb hrow1 hcbm hK04 hb5 ho5 hmfd hpl hB04 hrow5 hpb4 hv1 hwx5 hcb3 hd1 hd2 hgc
        have hGL255 : GL ≤ 255 := by have h := HGLn.out; rw [HGLe.out] at h; omega
        go_upto_block 14 with fail
        refine nB14 _ Bd cb k mb N GL i v3c v3a D uL u Mm v1 hk22 hN255 (by omega) (by have := HN.out; omega) HNt.out HGLe.out hGL255 Hu.out (by omega) (by omega) Hrow1.out (fun b hb => ?g1) (fun b hb => ?g2) HM1.out Hcbm.out ?_
        case g1 =>
          obtain ⟨h1, h2, h3⟩ := Hgb.out b hb
          exact ⟨by omega, fun e => h3 (.inl (by rw [e]; exact hPmb)), fun h => h3 (.inr (.inr h))⟩
        case g2 => have := HL7.out.m b hb; omega
        rintro y27 y205 y206 y207 y208 y209 y210 y211 y212 y213 y214 y215 y216 y217 y218 y219 y220 y221 y222 y223 y224 y225 y226 y227 y228 y229 y230 v2 ⟨M8, hM8e, hM8b, hK8, hB8'⟩
        have HM8e := hid hM8e; have HM8b := hid hM8b; have HK8 := hid hK8; have HB8' := hid hB8'
        have hsz2 := hB8'.size
        clear hM8e hM8b hK8 hB8'
        go_wp2
        go_roundw
        case rel =>
          have hpl := HL7.out
          have hM8e := HM8e.out
          have hs1' : v1.heap.size = u4.heap.size := hs1
          have hyv : ∀ b, b < v1.heap.size → b ≠ mb → ¬ Mm b → v2.heap[b]? = v1.heap[b]? := HK8.out
          have hv5 : ∀ b, (Value.slice v5a GL v5c).ownBlock = some b → u3.heap.size ≤ b ∧ b < u4.heap.size := fun b hb => Hrow5.out.lt b hb
          have hy3 : ∀ b, b < u3.heap.size → b ≠ pb → b ≠ mb → ¬ Mm b → v2.heap[b]? = u3.heap[b]? := fun b h1 h2 h3 h4 => (hyv b (by omega) h3 h4).trans ((Hk1.out b h2).trans (Hb5.out.block b h1))
          have hfdM : ¬ Mm fd := fun h => by have := hpl.m fd h; omega
          refine ⟨i + 1, fun b => G b ∨ (Value.slice v5a GL v5c).ownBlock = some b, M8, by omega, by go_num, ⟨fun b hb => ?_, fun b hb => ?_, fun b hb hm => ?_, ?_, ?_, hM8e, fun b hb => ?_, (hpl.below.trans HB1'.out).trans HB8'.out⟩⟩
          · rcases hb with h | h
            · have := hpl.g b h; omega
            · have := hv5 b h; omega
          · rcases HM8b.out b hb with h | h
            · have := hpl.m b h; omega
            · omega
          · rcases hb with h | h
            · rcases HM8b.out b hm with h' | h'
              · exact hpl.gm b h h'
              · have := hpl.g b h; omega
            · have h1 := hv5 b h
              rcases HM8b.out b hm with h' | h'
              · have := hpl.m b h'; omega
              · omega
          · have hgr4 : ∀ b, (Value.slice g2a gl.length g2c).ownBlock = some b → b < u3.heap.size := fun b hb => (Hgr3.out.lt b hb).2
            have hse4 : ∀ b, se2.ownBlock = some b → b < u3.heap.size := fun b hb => (HC3.out.lt hb).1
            have hoff : ∀ (vv : Value), Off (fun b => P0 b ∨ G b ∨ Mm b) vv → (∀ b, vv.ownBlock = some b → b < u3.heap.size) → Off (fun b => P0 b ∨ (G b ∨ (Value.slice v5a GL v5c).ownBlock = some b) ∨ M8 b) vv := fun vv h1 h2 b hb h => by
              have h3 := h2 b hb
              rcases h with h | (h | h) | h
              · exact h1 b hb (.inl h)
              · exact h1 b hb (.inr (.inl h))
              · have := hv5 b h; omega
              · rcases HM8b.out b h with h | h
                · exact h1 b hb (.inr (.inr h))
                · omega
            refine ⟨_, _, _, _, _, _, gl.length, xs3, (hy3 fd (heap_lt Hfd3.out) (by omega) (by omega) hfdM).trans Hfd3.out, own_move Hgr3.out (fun b hb hl => hy3 b hl (fun e => Hg2.out b hb (.inl (by rw [e]; exact hPpb))) (fun e => Hg2.out b hb (.inl (by rw [e]; exact hPmb))) (fun h => Hg2.out b hb (.inr (.inr h)))), HC3.out.move (fun b hb hl => hy3 b hl (fun e => Hs2.out b hb (.inl (by rw [e]; exact hPpb))) (fun e => Hs2.out b hb (.inl (by rw [e]; exact hPmb))) (fun h => Hs2.out b hb (.inr (.inr h)))), hoff _ Hg2.out hgr4, hoff _ Hs2.out hse4⟩
          · refine HPr1.out.keep (hyv pb (by omega) (by omega) (fun h => by have := hpl.m pb h; omega)) (fun b hb => ?_) (fun b hb => hb) HB8'.out
            rcases hb with h | h
            · have h1 := hpl.g b h
              exact hyv b (by omega) (by omega) (fun h' => hpl.gm b h h')
            · have h1 := hv5 b h
              exact hyv b (by omega) (by omega) (fun h' => by have := hpl.m b h'; omega)
          · have h0 := HP0l.out b hb.1
            exact (hyv b (by omega) hb.2.2 (fun h => by have := hpl.m b h; omega)).trans ((Hk1.out b hb.2.1).trans ((HK04.out b (.inl hb.1)).trans (hpl.kp b hb)))
        case measure => simp [intOf] <;> omega
    · have hiMi : ¬ (i : Int) < (M : Int) + 2 := by omega
      obtain rfl : i = M + 2 := by omega
      go_wp2
      exact HQ.out _ _ _ _ _ _ _ _ _ _ _ _ _ _ _ _ _ _ _ _ _ _ _ _ _ _ _ _ _ _ _ _ _ _ _ _ _ _ _ _ _ _ _ _ _ _ _ _ _ _ _ _ _ _ _ _ _ _ _ _ _ _ v0 ⟨G, Mm, HL7.out⟩
end Go.Proofs.YbulkchuuGreatDoor
