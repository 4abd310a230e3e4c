import Derived.Test.YbulkchuuGreatDoorNC
namespace Go.Proofs.YbulkchuuGreatDoor
open Go.RowKit Go.Maps Classical
set_option linter.unusedVariables false
set_option linter.unusedSimpArgs false
set_option maxRecDepth 100000

set_option maxHeartbeats 32000000 in
theorem nB14 {e0 e1 e2 e3 e4 e5 e6 e7 e8 e9 e10 e11 e13 e14 e15 e17 e18 e19 e20 e21 e22 e24 e25 e26 e27 e28 e29 e30 e31 e32 e33 e34 e35 e36 e37 e38 e39 e40 e41 e42 e43 e44 e45 e46 e47 e48 e49 e50 e51 e52 e53 e54 e55 e56 e57 e58 e59 e60 e61 e62 e63 e64 e65 e66 e67 e68 e69 e70 e71 e72 e73 e74 e75 e76 e77 e78 e79 e80 e81 e82 e83 e84 e85 e86 e87 e88 e89 e90 e91 e92 e93 e94 e95 e96 e97 e98 e99 e100 e101 e102 e103 e104 e105 e106 e107 e108 e109 e110 e111 e112 e113 e114 e115 e116 e117 e118 e119 e120 e121 e122 e123 e124 e125 e126 e127 e128 e129 e130 e131 e132 e133 e134 e135 e136 e137 e138 e139 e140 e141 e142 e143 e144 e145 e146 e147 e148 e149 e150 e151 e152 e153 e154 e155 e156 e157 e158 e159 e160 e161 e162 e163 e164 e165 e166 e167 e168 e169 e170 e171 e172 e173 e174 e175 e176 e177 e178 e179 e180 e181 e182 e183 e184 e185 e186 e187 e188 e189 e190 e191 e192 e193 e194 e195 e196 e197 e198 e199 e200 e201 e202 e206 e207 e208 e209 e210 e211 e212 e213 e214 e215 e216 e217 e218 e219 e220 e221 e222 e223 e224 e225 e226 e227 e228 e229 e230 e231 e232 e233 e234 e235 e236 e237 e238 e239 e240 e241 e242 e243 e244 e245 e246 e247 e248 e249 e250 : Value} (Q : Exit → Act → World → Prop) (Bd cb k mb N GL i v3c : Nat) (v3a : Option Addr) (D : DIn) (uL : List ByteArray) (u : ByteArray) (Mm : Nat → Prop) (v1 : World) (hk22 : k < 2) (hN255 : N ≤ 255) (hi9 : i ≤ 900000) (hn0 : 0 ≤ D.n) (hNt : D.n.toNat = N) (hGLe : (grpOf D u).length = GL) (hGL255 : GL ≤ 255) (hu : uL[i]? = some u) (hbm : Bd ≤ mb) (hcm : cb < mb) (hrow1 : v1.ownsRow 0 21 1 (.slice v3a GL v3c) GL (I32s (grpOf D u))) (hgb : ∀ b, (Value.slice v3a GL v3c).ownBlock = some b → b < v1.heap.size ∧ b ≠ mb ∧ ¬ Mm b) (hMm : ∀ b, Mm b → mb < b ∧ b < v1.heap.size) (hM1 : MembAt D uL mb N (mOf D uL i) Mm v1) (hcbm : v1.cell? ⟨cb, 7 + k, none⟩ = some (.slice (some ⟨mb, 0, none⟩) N N))
    (hQ : ∀ (x27 x205 x206 x207 x208 x209 x210 x211 x212 x213 x214 x215 x216 x217 x218 x219 x220 x221 x222 x223 x224 x225 x226 x227 x228 x229 x230 : Value) (wr : World), (∃ M8, MembAt D uL mb N (mOf D uL (i + 1)) M8 wr ∧ (∀ b, M8 b → Mm b ∨ (v1.heap.size ≤ b ∧ b < wr.heap.size)) ∧ (∀ b, b < v1.heap.size → b ≠ mb → ¬ Mm b → wr.heap[b]? = v1.heap[b]?) ∧ Below Bd v1 wr) → Q .normal ⟨#[e0, e1, e2, e3, e4, e5, e6, e7, e8, e9, e10, e11, (.pointer (some ⟨cb, 0, none⟩)), e13, e14, e15, (.int .i64 (k : Int)), e17, e18, e19, e20, e21, e22, (.int .i64 (i : Int)), e24, e25, e26, x27, e28, e29, e30, e31, e32, e33, e34, e35, e36, e37, e38, e39, e40, e41, e42, e43, e44, e45, e46, e47, e48, e49, e50, e51, e52, e53, e54, e55, e56, e57, e58, e59, e60, e61, e62, e63, e64, e65, e66, e67, e68, e69, e70, e71, e72, e73, e74, e75, e76, e77, e78, e79, e80, e81, e82, e83, e84, e85, e86, e87, e88, e89, e90, e91, e92, e93, e94, e95, e96, e97, e98, e99, e100, e101, e102, e103, e104, e105, e106, e107, e108, e109, e110, e111, e112, e113, e114, e115, e116, e117, e118, e119, e120, e121, e122, e123, e124, e125, e126, e127, e128, e129, e130, e131, e132, e133, e134, e135, e136, e137, e138, e139, e140, e141, e142, e143, e144, e145, e146, e147, e148, e149, e150, e151, e152, e153, e154, e155, e156, e157, e158, e159, e160, e161, e162, e163, e164, e165, e166, e167, e168, e169, e170, e171, e172, e173, e174, e175, e176, e177, e178, e179, e180, e181, e182, e183, e184, e185, e186, e187, e188, e189, e190, e191, e192, e193, e194, e195, e196, e197, e198, e199, e200, e201, e202, (.slice v3a GL v3c), (.int .i64 (GL : Int)), x205, x206, x207, x208, x209, x210, x211, x212, x213, x214, x215, x216, x217, x218, x219, x220, x221, x222, x223, x224, x225, x226, x227, x228, x229, x230, e231, e232, e233, e234, e235, e236, e237, e238, e239, e240, e241, e242, e243, e244, e245, e246, e247, e248, e249, e250], []⟩ wr) :
    Code.wp Ybaz.prog (nC14 Ybaz.f14) Q ⟨#[e0, e1, e2, e3, e4, e5, e6, e7, e8, e9, e10, e11, (.pointer (some ⟨cb, 0, none⟩)), e13, e14, e15, (.int .i64 (k : Int)), e17, e18, e19, e20, e21, e22, (.int .i64 (i : Int)), e24, e25, e26, e27, e28, e29, e30, e31, e32, e33, e34, e35, e36, e37, e38, e39, e40, e41, e42, e43, e44, e45, e46, e47, e48, e49, e50, e51, e52, e53, e54, e55, e56, e57, e58, e59, e60, e61, e62, e63, e64, e65, e66, e67, e68, e69, e70, e71, e72, e73, e74, e75, e76, e77, e78, e79, e80, e81, e82, e83, e84, e85, e86, e87, e88, e89, e90, e91, e92, e93, e94, e95, e96, e97, e98, e99, e100, e101, e102, e103, e104, e105, e106, e107, e108, e109, e110, e111, e112, e113, e114, e115, e116, e117, e118, e119, e120, e121, e122, e123, e124, e125, e126, e127, e128, e129, e130, e131, e132, e133, e134, e135, e136, e137, e138, e139, e140, e141, e142, e143, e144, e145, e146, e147, e148, e149, e150, e151, e152, e153, e154, e155, e156, e157, e158, e159, e160, e161, e162, e163, e164, e165, e166, e167, e168, e169, e170, e171, e172, e173, e174, e175, e176, e177, e178, e179, e180, e181, e182, e183, e184, e185, e186, e187, e188, e189, e190, e191, e192, e193, e194, e195, e196, e197, e198, e199, e200, e201, e202, (.slice v3a GL v3c), (.int .i64 (GL : Int)), (.int .i64 0), e206, e207, e208, e209, e210, e211, e212, e213, e214, e215, e216, e217, e218, e219, e220, e221, e222, e223, e224, e225, e226, e227, e228, e229, e230, e231, e232, e233, e234, e235, e236, e237, e238, e239, e240, e241, e242, e243, e244, e245, e246, e247, e248, e249, e250], []⟩ v1 := by
  refine nq_mono (fn := Ybaz.f14) (K := fun a w => Q .normal a w) ?_ (fun _ _ h => h)
  conv => arg 2; whnf
  try dsimp only
  have hki : (k : Int) < 2 := by omega
  have hcbl : cb < v1.heap.size := World.block_lt_of_cell? _ _ hcbm
  have hmbl : mb < v1.heap.size := by obtain ⟨c, h1, _⟩ := hM1; exact heap_lt h1
  have HNt := hid hNt; have HGLe := hid hGLe; have Hu := hid hu; have Hrow1 := hid hrow1; have Hgb := hid hgb; have HMm := hid hMm; have HM1 := hid hM1; have Hcbm := hid hcbm; have HQ := hid hQ
  clear hNt hGLe hu hrow1 hgb hMm hM1 hcbm hQ
  go_wp2
  go_loopw [205] (fun vk wr => ∃ (t : Nat) (M8 : Nat → Prop), t ≤ GL ∧ vk = .int .i64 t ∧ MembAt D uL mb N (L8 D uL u i t) M8 wr ∧ (∀ b, M8 b → Mm b ∨ (v1.heap.size ≤ b ∧ b < wr.heap.size)) ∧ (∀ b, b < v1.heap.size → b ≠ mb → ¬ Mm b → wr.heap[b]? = v1.heap[b]?) ∧ Below Bd v1 wr) (fun vk _ => GL - (intOf vk).toNat)
  case atStart => exact ⟨0, Mm, by omega, rfl, by rw [L8_zero]; exact HM1.out, fun b hb => .inl hb, fun _ _ _ _ => rfl, Below.refl _ _⟩
  case round =>
    generalize wr = v2 at *
    obtain ⟨t, M8, ht, rfl, hM8, hM8b, hK8, hB8'⟩ := hrel
    have HM8 := hid hM8; have HM8b := hid hM8b; have HK8 := hid hK8; have HB8' := hid hB8'
    have hsz2 := hB8'.size
    clear hM8 hM8b hK8 hB8'
    by_cases htG : t < GL
    · have htGi : (t : Int) < (GL : Int) := by omega
      obtain ⟨x, hx⟩ : ∃ x, (grpOf D u)[t]? = some x := ⟨_, List.getElem?_eq_getElem (by rw [HGLe.out]; exact htG)⟩
      have hxr := grp_in u x (List.mem_of_getElem? hx)
      obtain ⟨g, rfl⟩ : ∃ g : Nat, x = (g : Int) := ⟨x.toNat, by omega⟩
      have hgN : g < N := by have := HNt.out; omega
      have hgNi : (g : Int) < (N : Int) := by omega
      obtain ⟨ggb, hga, hgcell⟩ : ∃ ggb, v3a = some ⟨ggb, 0, none⟩ ∧ v1.cell? ⟨ggb, t, none⟩ = some (.int .i32 (g : Int)) := by
        rcases Hrow1.out.2 with ⟨e, h0⟩ | ⟨gg, cap, cur, e, _⟩
        · omega
        · injection e with e1 _ _
          have := Hrow1.out.cells (g := gg) (by rw [e1]; rfl) t (.int .i32 (g : Int)) (by simp [I32s, hx])
          rw [Go.WideShapes.add_plain, Nat.zero_add] at this
          exact ⟨gg, e1, this⟩
      subst hga
      obtain ⟨hgb1, hgb2, hgb3⟩ := Hgb.out ggb rfl
      have c0 : v2.cell? ⟨ggb, t, none⟩ = some (.int .i32 (g : Int)) := (cell_eq (HK8.out ggb hgb1 hgb2 hgb3) t).trans hgcell
      have hcbM : ¬ Mm cb := fun h => by have := HMm.out cb h; omega
      have c7 : v2.cell? ⟨cb, 7 + k, none⟩ = some (.slice (some ⟨mb, 0, none⟩) N N) := (cell_eq (HK8.out cb hcbl (by omega) hcbM) _).trans Hcbm.out
      obtain ⟨va, vc, va', vc', w8', k1, k2, k3, k4, k5, k6, k7, k8, k9⟩ := HM8.out.push g hgN i (by omega) (Nat.le_trans (L8_len D uL u i t g) (by omega)) (fun b hb => by rcases HM8b.out b hb with h | h; have := HMm.out b h; omega; omega)
      obtain ⟨Lg, hLg⟩ : ∃ x, (L8 D uL u i t g).length = x := ⟨_, rfl⟩
      have Hk5 := hid k5; have Hk6 := hid k6; have Hk7 := hid k7; have Hk8 := hid k8; have Hk9 := hid k9; have Hx := hid hx; have Hrun := hid k2
      rw [hLg] at k1 k3 Hk5 Hk6 Hk7 Hrun
      have c78 : w8'.cell? ⟨cb, 7 + k, none⟩ = some (.slice (some ⟨mb, 0, none⟩) N N) := by
        have h1 := Hk7.out cb (by omega) (by omega) (fun h => by rcases HM8b.out cb h with h | h; exact hcbM h; omega)
        rw [Below.heap_setCell _ _ _ _ (by simp; omega)] at h1
        exact (cell_eq h1 _).trans c7
      have c7' := cell_al c7 (.cells #[.int .i32 (i : Int)] 21)
      have k1' := cell_al k1 (.cells #[.int .i32 (i : Int)] 21)
      have hwi := wrap32_nat i (by omega)
      clear k2 k5 k6 k7 k8 k9 hx hLg hgcell
      obtain ⟨v3, Hcut⟩ : ∃ v3, Hid (v3 = w8'.setCell ⟨mb, g, none⟩ (.slice va' (Lg + 1) vc')) := ⟨_, hid rfl⟩
      have hfin : ∃ (t' : Nat) (M8' : Nat → Prop), t' ≤ GL ∧ Value.int .i64 ((t : Int) + 1) = .int .i64 t' ∧ MembAt D uL mb N (L8 D uL u i t') M8' v3 ∧ (∀ b, M8' b → Mm b ∨ (v1.heap.size ≤ b ∧ b < v3.heap.size)) ∧ (∀ b, b < v1.heap.size → b ≠ mb → ¬ Mm b → v3.heap[b]? = v1.heap[b]?) ∧ Below Bd v1 v3 := by
        have h5 := Hk5.out; have h6 := Hk6.out; have h7 := Hk7.out
        rw [← Hcut.out] at h5 h7
        have hs3 : v3.heap.size = w8'.heap.size := by rw [Hcut.out]; simp
        have h9 := Hk9.out
        rw [L8_succ D uL u i t g Hx.out] at h5
        have hM8t : ∀ b, (M8 b ∨ (Value.slice va' (Lg + 1) vc').ownBlock = some b) → Mm b ∨ (v1.heap.size ≤ b ∧ b < v3.heap.size) := fun b hb => by
          rcases hb with h | h
          · rcases HM8b.out b h with h | h
            · exact .inl h
            · exact .inr (by omega)
          · rcases h6 b h with h | h
            · rcases HM8b.out b h with h | h
              · exact .inl h
              · exact .inr (by omega)
            · exact .inr (by omega)
        refine ⟨t + 1, _, by omega, by go_num, h5, hM8t, fun b hb hne hnM => (h7 b (by omega) hne (fun h => ?_)).trans (HK8.out b hb hne hnM), ?_⟩
        · rcases HM8b.out b h with h | h
          · exact hnM h
          · omega
        · refine HB8'.out.trans ⟨?_, ?_, ?_, by omega, fun b hb => h7 b (by omega) (by omega) (fun h => ?_)⟩
          · rw [Hcut.out]; exact Hk8.out.1
          · rw [Hcut.out]; exact Hk8.out.2.1
          · rw [Hcut.out]; exact Hk8.out.2.2
          · rcases HM8b.out b h with h | h
            · have := HMm.out b h; omega
            · omega
      have HFin := hid hfin
      clear hfin
      go_wp2_with fail
      go_region_law (refine step_append_eq rfl (.tmp 224) (.tmp 227) 77 rfl (by simp [Act.eval, Act.put]) (by simp [Act.eval, Act.put]) Hrun.out ?_)
      all_goals
        rw [← Hcut.out]
        go_wp2
        go_roundw
        case rel => exact HFin.out
        case measure => simp [intOf] <;> omega
    · have htGi : ¬ (t : Int) < (GL : Int) := by omega
      obtain rfl : t = GL := by omega
      have hM8e := HM8.out
      rw [L8_all hn0 uL u i t Hu.out HGLe.out.symm] at hM8e
      have HM8e := hid hM8e
      clear hM8e
      go_wp2
      exact HQ.out _ _ _ _ _ _ _ _ _ _ _ _ _ _ _ _ _ _ _ _ _ _ _ _ _ _ _ v2 ⟨M8, HM8e.out, HM8b.out, HK8.out, HB8'.out⟩
end Go.Proofs.YbulkchuuGreatDoor
