import Derived.Test.YbulkchuuGreatDoorHB10
namespace Go.Proofs.YbulkchuuGreatDoor
open Go.RowKit Go.Maps
set_option linter.unusedVariables false
set_option linter.unusedSimpArgs false
set_option maxRecDepth 100000

theorem InD.mono {Bd Bd' : Nat} {D : DIn} {w : World} (h : InD Bd D w) (hB : Bd ≤ Bd') : InD Bd' D w where
  repo j hj := by obtain ⟨bb, off, h1, h2, h3⟩ := h.repo j hj; exact ⟨bb, off, h1, by omega, h3⟩
  user j hj := by obtain ⟨bb, off, h1, h2, h3⟩ := h.user j hj; exact ⟨bb, off, h1, by omega, h3⟩
  grp j hj := by obtain ⟨bb, off, h1, h2, h3⟩ := h.grp j hj; exact ⟨bb, off, h1, by omega, h3⟩
  named j hj := by obtain ⟨bb, off, h1, h2, h3⟩ := h.named j hj; exact ⟨bb, off, h1, by omega, h3⟩
  n0 := h.n0
  list j hj := by
    obtain ⟨bb, off, h1, h2, h3, h4, h5, h6⟩ := h.list j hj
    exact ⟨bb, off, h1, by omega, h3, h4, h5, fun t ht => by obtain ⟨b2, o2, k1, k2, k3⟩ := h6 t ht; exact ⟨b2, o2, k1, by omega, k3⟩⟩
  within j hj := by
    obtain ⟨bb, off, h1, h2, h3, h4⟩ := h.within j hj
    exact ⟨bb, off, h1, by omega, h3, fun t ht => by obtain ⟨b2, o2, k1, k2, k3⟩ := h4 t ht; exact ⟨b2, o2, k1, by omega, k3⟩⟩
theorem below_drewN (w : World) (n : Nat) : Below w.heap.size w (w.drewN n) := ⟨rfl, rfl, rfl, Nat.le_refl _, fun _ _ => rfl⟩
theorem below_fr {S : Nat → Prop} {B : Nat} {w w' : World} (h : Fr S w w') (hB : B ≤ w.heap.size) (hs : ∀ b, S b → B ≤ b) : Below B w w' := h.below hB (fun b hb e => by have := hs b e; omega)
theorem grownRow_below {B n : Nat} {w w' : World} {v : Value} {xs : List Value} (hg : w.grownBy w' v.ownBlock) (hO : w.ownsRow B 9 1 v n xs) (hB : B ≤ w.heap.size) : Below B w w' :=
  ⟨hg.os, hg.tape, hg.output, hg.size, fun b hb => hg.block b (by omega) (fun e => by have := (hO.lt b e.symm).1; omega)⟩
theorem bytes_enc (l : List ByteArray) : l.map Value.string = (bytesL l).map encStr := enc_str l
/-- the repositories, as the law gathers them -/
theorem repoRow {w : World} {Bd : Nat} {DD : Nat → DIn} {K : CK} {p m : Nat → Value} {T : Nat → Prop} {ss : List (List UInt8)} {lg db fsb : Nat} {w9 : World} (hM : Mid w Bd DD K p m T ss lg db fsb w9) :
    ∃ va1 vc1 wB va2 vc2 wC, (w9.alloc (.cells #[.string ⟨#[]⟩] 9)).cell? ⟨w.heap.size, 0, none⟩ = some (.slice (DD 0).ra (DD 0).rn (DD 0).rc) ∧
      (Builtin.append_ #[22, 22] 22 #[.slice (some ⟨w9.heap.size, 0, none⟩) 1 1, .slice (DD 0).ra (DD 0).rn (DD 0).rc]).run Ybaz.prog (w9.alloc (.cells #[.string ⟨#[]⟩] 9)) = .ok (.slice va1 (1 + (DD 0).rn) vc1) wB ∧
      wB.cell? ⟨w.heap.size + 1, 0, none⟩ = some (.slice (DD 1).ra (DD 1).rn (DD 1).rc) ∧
      (Builtin.append_ #[22, 22] 22 #[.slice va1 (1 + (DD 0).rn) vc1, .slice (DD 1).ra (DD 1).rn (DD 1).rc]).run Ybaz.prog wB = .ok (.slice va2 (1 + (DD 0).rn + (DD 1).rn) vc2) wC ∧
      wC.ownsRow w9.heap.size 9 1 (.slice va2 (1 + (DD 0).rn + (DD 1).rn) vc2) (1 + (DD 0).rn + (DD 1).rn) ((bytesL (repoL DD)).map encStr) ∧ Below w9.heap.size w9 wC := by
  obtain ⟨wA, hwA⟩ : ∃ x, w9.alloc (.cells #[.string ⟨#[]⟩] 9) = x := ⟨_, rfl⟩
  have hoA := own_lit (w := w9) ⟨#[]⟩
  have hBA : Below w9.heap.size w9 wA := by rw [← hwA]; exact (Below.refl _ w9).alloc (Nat.le_refl _) _
  rw [hwA] at hoA ⊢
  have hr0 := (hM.small 0 (by omega)).rn
  have hr1 := (hM.small 1 (by omega)).rn
  have hMA := hM.up hBA
  obtain ⟨va1, vc1, wB, hrun1, ho1, hg1⟩ := append_strs hoA (DD 0).ra (DD 0).rc (strL (DD 0).rn (DD 0).repo) (strRow_R (hMA.ind 0 (by omega)).repo) hBA.size (by rw [strL_len]; omega)
  have hBB : Below w9.heap.size w9 wB := hBA.trans (grownRow_below hg1 hoA hBA.size)
  have hMB := hM.up hBB
  rw [strL_len] at hrun1 ho1
  obtain ⟨va2, vc2, wC, hrun2, ho2, hg2⟩ := append_strs ho1 (DD 1).ra (DD 1).rc (strL (DD 1).rn (DD 1).repo) (strRow_R (hMB.ind 1 (by omega)).repo) hBB.size (by rw [strL_len]; omega)
  have hBC : Below w9.heap.size w9 wC := hBB.trans (grownRow_below hg2 ho1 hBB.size)
  rw [strL_len] at hrun2 ho2
  refine ⟨va1, vc1, wB, va2, vc2, wC, by rw [cell_of (b := w.heap.size) (hMA.data 0 (by omega))]; rfl, hrun1, by rw [cell_of (hMB.data 1 (by omega))]; rfl, hrun2, ?_, hBC⟩
  rw [← bytes_enc]
  unfold repoL
  rw [List.map_append, List.map_cons]
  exact ho2
theorem repoL_len (DD : Nat → DIn) : (bytesL (repoL DD)).length = 1 + (DD 0).rn + (DD 1).rn := by
  simp [bytesL, repoL, strL_len]; omega
theorem equal10_same {a1 a2 : Option Addr} {c d n : Nat} {zs : List (List UInt8)} {w : World} (hn : zs.length = n) (h1 : RowR a1 (zs.map encStr) w) (h2 : RowR a2 (zs.map encStr) w) (hl : n ≤ 10000000) :
    Calls Ybaz.prog 10 #[.slice a1 n c, .slice a2 n d] w fun e w' => e = .returned (.bool true) ∧ ∃ q, w' = w.drewN q := by
  rw [str_enc] at h1 h2
  have := equal10 a1 a2 c d _ _ w h1 h2 (by rw [List.length_map]; omega) (by rw [List.length_map]; omega)
  rw [List.length_map, hn] at this
  refine this.mono ?_
  rintro e w' ⟨rfl, h⟩
  exact ⟨by simp, h⟩
theorem equal10_bas {a1 a2 : Option Addr} {c d n : Nat} {zs : List ByteArray} {w : World} (hn : zs.length = n) (h1 : RowR a1 (zs.map Value.string) w) (h2 : RowR a2 (zs.map Value.string) w) (hl : n ≤ 10000000) :
    Calls Ybaz.prog 10 #[.slice a1 n c, .slice a2 n d] w fun e w' => e = .returned (.bool true) ∧ ∃ q, w' = w.drewN q := by
  have := equal10 a1 a2 c d _ _ w h1 h2 (by omega) (by omega)
  rw [hn] at this
  refine this.mono ?_
  rintro e w' ⟨rfl, h⟩
  exact ⟨by simp, h⟩
/-- the users, as the law gathers them: the names behind "" -/
theorem usersRow1 {B M nc : Nat} {na : Option Addr} {ss : List (List UInt8)} {wH : World} (hM : ss.length = M) (hM6 : M ≤ 600000) (hB : B ≤ wH.heap.size) (hrow : wH.ownsRow B 9 1 (.slice na M nc) M (ss.map encStr)) :
    ∃ ub ue wJ, (Builtin.append_ #[22, 22] 22 #[.slice (some ⟨wH.heap.size, 0, none⟩) 1 1, .slice na M nc]).run Ybaz.prog (wH.alloc (.cells #[.string ⟨#[]⟩] 9)) = .ok (.slice ub (1 + M) ue) wJ ∧
      wJ.ownsRow wH.heap.size 9 1 (.slice ub (1 + M) ue) (1 + M) ((⟨#[]⟩ :: ss.map (fun x => (⟨x.toArray⟩ : ByteArray))).map Value.string) ∧ Below wH.heap.size wH wJ := by
  have hoI := own_lit (w := wH) ⟨#[]⟩
  have hBI : Below wH.heap.size wH (wH.alloc (.cells #[.string ⟨#[]⟩] 9)) := (Below.refl _ wH).alloc (Nat.le_refl _) _
  have hR : RowR na ((ss.map (fun x => (⟨x.toArray⟩ : ByteArray))).map Value.string) (wH.alloc (.cells #[.string ⟨#[]⟩] 9)) := by
    rw [← str_enc]
    exact own_rowR (own_move hrow (fun b hb hl => hBI.block b hl))
  obtain ⟨ub, ue, wJ, hrun, ho, hg⟩ := append_strs hoI na nc _ hR (by simp) (by rw [List.length_map]; omega)
  rw [List.length_map, hM] at hrun ho
  exact ⟨ub, ue, wJ, hrun, ho, hBI.trans (grownRow_below hg hoI (by simp))⟩
theorem usersRow2 {B n ue : Nat} {ub : Option Addr} {us : List ByteArray} {un : ByteArray} {wK : World} (hn : n ≤ 700000) (hB : B ≤ wK.heap.size) (hrow : wK.ownsRow B 9 1 (.slice ub n ue) n (us.map Value.string)) :
    ∃ ud uf wN, (Builtin.append_ #[22, 22] 22 #[.slice ub n ue, .slice (some ⟨wK.heap.size, 0, none⟩) 1 1]).run Ybaz.prog (wK.alloc (.cells #[.string un] 9)) = .ok (.slice ud (n + 1) uf) wN ∧
      wN.ownsRow B 9 1 (.slice ud (n + 1) uf) (n + 1) ((us ++ [un]).map Value.string) ∧ Below B wK wN := by
  have hO2 := hrow.alloc (.cells #[.string un] 9)
  obtain ⟨va', vc', w3, hrun, ho3, hg3⟩ := append_strs hO2 (some ⟨wK.heap.size, 0, none⟩) 1 [un] (fun j v hj => ⟨wK.heap.size, 0, rfl, by
    rw [cell_of (heap_alloc_new wK (.cells #[.string un] 9)), Nat.zero_add]
    simpa using hj⟩) (by simp; omega) (by simp; omega)
  refine ⟨va', vc', w3, hrun, by rw [List.map_append]; exact ho3, ((Below.refl B wK).alloc hB _).trans (grownRow_below hg3 hO2 (by simp; omega))⟩
theorem look78 {w : World} {re : Nat} (h : w.ownsMap Ybaz.prog 9 Rh re 1 restD) : (Instr.lookup 78 (.map (some re)) (.string ⟨#[47, 42, 42]⟩) true).run Ybaz.prog w = .ok (.tuple #[.int .i32 0, .bool true]) w := by
  obtain ⟨v, ps, h1, h2⟩ := h.look_ok law9' Ybaz.underlying78 (z := .int .i32 0) (Ybaz.zeroValue21 w) (zd := .held (.int .i32 0)) (zp := []) rfl (key9' ⟨#[47, 42, 42]⟩ (by decide))
  have e1 : Maps.has restD (.string (⟨#[47, 42, 42]⟩ : ByteArray).data.toList) = true := by decide
  have e2 : restD.atKey (.string (⟨#[47, 42, 42]⟩ : ByteArray).data.toList) (.held (.int .i32 0)) = .held (.int .i32 0) := by first | rfl | (simp [restD, restKey, DataW.atKey, DataW.put]; done) | kernel_rfl
  rw [e1] at h1
  rw [e2] at h2
  simp only [Rh, Option.some.injEq, Prod.mk.injEq, DataW.held.injEq] at h2
  rw [h2.1] at h1
  exact h1
theorem size_restD : Maps.size restD = 1 := by decide
end Go.Proofs.YbulkchuuGreatDoor
