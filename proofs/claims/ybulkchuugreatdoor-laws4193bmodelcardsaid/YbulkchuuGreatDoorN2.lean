import Derived.Test.YbulkchuuGreatDoorN1
import Derived.Test.YbulkchuuGreatDoorGrow
namespace Go.Proofs.YbulkchuuGreatDoor
open Go.RowKit Go.Maps
set_option linter.unusedVariables false
set_option linter.unusedSimpArgs false
set_option maxRecDepth 100000

theorem info9 : (Ybaz.prog.info? 9).map (fun i => (i.zero, i.size, i.bytes)) = some (some (.string ⟨#[]⟩), 1, 16) := by kernel_rfl
/-- slices.Grow(nil, n) -/
theorem grow69' (n : Nat) (w : World) (hn : 0 < n) (hn2 : n ≤ 1000000) : Calls Ybaz.prog 69 #[.slice none 0 0, .int .i64 n] w fun e w' => ∃ v, e = .returned v ∧ w'.ownsRow w.heap.size 9 1 v 0 [] ∧ Below w.heap.size w w' := by
  obtain ⟨i9, hi, hz0, hz1, hz2⟩ := info_parts info9
  refine (Any8.slices_Grow_grow Ybaz.grow69 i9 (.string ⟨#[]⟩) hi hz0 (by omega) none 0 0 n [] w (Nat.le_refl _) (by omega) (by rw [hz2]; omega) (by omega) (by simp) (fun _ => rfl) (fun _ h => by cases h)).mono ?_
  rintro e w' ⟨rfl, rfl⟩
  have hge := grownCap_ge w (0 + n) 0 9
  have hle := grownCap_le_maxLen w (0 + n) 0 9 (by unfold maxLen; omega)
  refine ⟨_, rfl, ⟨rfl, .inr ⟨w.heap.size, _, _, rfl, Nat.le_refl _, heap_alloc_new w.drew _, by omega, hle, ?_, by simp⟩⟩, ⟨rfl, rfl, rfl, by simp, fun b hb => Below.heap_alloc w.drew _ b hb⟩⟩
  show (_ ++ Builtin.zeroCells _ (0 + n - 0) ++ Builtin.zeroCells _ (grownCap w (0 + n) 0 9 - (0 + n))).size = grownCap w (0 + n) 0 9 * 1
  simp [Builtin.zeroCells, Value.cells]
  rw [Nat.zero_add] at hge
  omega
/-- appending the nil slice -/
theorem run_append_nil2 (w : World) (v : Value) (n B : Nat) (xs : List Value) (h : w.ownsRow B 9 1 v n xs) : (Builtin.append_ #[22, 22] 22 #[v, .slice none 0 0]).run Ybaz.prog w = .ok v w := by
  rcases h.2 with ⟨rfl, rfl⟩ | ⟨g, cap, cur, rfl, h1, h2, h3, h4, h5, h6⟩
  · go_simp
  · go_simp
def sums (M k : Nat) : Nat := if k = 0 then 0 else if k = 1 then 1 else if k = 2 then M + 1 else M + 2
def users (ss : List (List UInt8)) (un : ByteArray) : List Value := .string ⟨#[]⟩ :: (ss.map encStr ++ [.string un])
def usersTo (ss : List (List UInt8)) (un : ByteArray) (k : Nat) : List Value := if k = 0 then [] else if k = 1 then [.string ⟨#[]⟩] else if k = 2 then .string ⟨#[]⟩ :: ss.map encStr else users ss un
set_option maxHeartbeats 8000000 in
/-- slices.Concat of [""], the names, [unnamed] -/
theorem concat24 (lb b0 b2 M nc B : Nat) (na : Option Addr) (ss : List (List UInt8)) (un : ByteArray) (w : World) (hM : ss.length = M) (hM6 : M ≤ 600000)
    (hlb : w.heap[lb]? = some (.cells #[.slice (some ⟨b0, 0, none⟩) 1 1, .slice na M nc, .slice (some ⟨b2, 0, none⟩) 1 1] 22 (0, 0))) (h0 : w.heap[b0]? = some (.cells #[.string ⟨#[]⟩] 9 (0, 0))) (h2 : w.heap[b2]? = some (.cells #[.string un] 9 (0, 0)))
    (hrow : w.ownsRow B 9 1 (.slice na M nc) M (ss.map encStr)) :
    Calls Ybaz.prog 24 #[.slice (some ⟨lb, 0, none⟩) 3 3] w fun e w' => ∃ v, e = .returned v ∧ w'.ownsRow w.heap.size 9 1 v (M + 2) (users ss un) ∧ Below w.heap.size w w' := by
  have c0 : w.cell? ⟨lb, 0, none⟩ = some (.slice (some ⟨b0, 0, none⟩) 1 1) := by rw [cell_of hlb]; rfl
  have c1 : w.cell? ⟨lb, 1, none⟩ = some (.slice na M nc) := by rw [cell_of hlb]; rfl
  have c2 : w.cell? ⟨lb, 2, none⟩ = some (.slice (some ⟨b2, 0, none⟩) 1 1) := by rw [cell_of hlb]; rfl
  have hl := heap_lt hlb; have hl0 := heap_lt h0; have hl2 := heap_lt h2
  have Hlb := hid hlb; have H0 := hid h0; have H2 := hid h2; have Hrow := hid hrow
  have HM := hid hM
  clear hlb h0 h2 hrow hM
  go_enter Ybaz.func24, Ybaz.ntmps24
  go_wp2
  go_loopw [3, 11] (fun vs vk wr => ∃ k : Nat, k ≤ 3 ∧ vs = .int .i64 (sums M k) ∧ vk = .int .i64 k ∧ wr = w) (fun _ vk _ => 3 - (intOf vk).toNat)
  case atStart => exact ⟨0, by omega, rfl, rfl, rfl⟩
  case round =>
    obtain ⟨k, hk, rfl, rfl, hw⟩ := hrel
    have hw' := hw.symm
    subst hw'
    have hk4 : k = 0 ∨ k = 1 ∨ k = 2 ∨ k = 3 := by omega
    rcases hk4 with rfl | rfl | rfl | rfl
    · have e : sums M 0 = 0 := rfl
      rw [e]
      go_wp2
      go_roundw
      case rel => exact ⟨1, by omega, rfl, rfl, by first | rfl | trivial⟩
      case measure => simp [intOf] <;> omega
    · have e : sums M 1 = 1 := rfl
      rw [e]
      go_wp2
      go_roundw
      case rel => exact ⟨2, by omega, by simp [sums]; omega, rfl, by first | rfl | trivial⟩
      case measure => simp [intOf] <;> omega
    · have e : sums M 2 = M + 1 := rfl
      rw [e]
      go_wp2
      go_roundw
      case rel => exact ⟨3, by omega, by simp [sums]; omega, rfl, by first | rfl | trivial⟩
      case measure => simp [intOf] <;> omega
    · have e : sums M 3 = M + 2 := rfl
      rw [e]
      have Hgr := hid (grow69' (M + 2) w (by omega) (by omega))
      go_wp2_with (go_at_call 69; refine Hgr.out.mono ?_; rintro e w2 ⟨v2, rfl, ho2, hb2⟩; have Ho2 := hid ho2; have Hb2 := hid hb2; clear ho2 hb2)
      obtain ⟨i9, hi, hz0, hz1, hz2⟩ := info_parts info9
      go_loopw [6, 27] (fun ve vk wx => ∃ k : Nat, k ≤ 3 ∧ vk = .int .i64 k ∧ Below w.heap.size w wx ∧ wx.ownsRow w.heap.size 9 1 ve (sums M k) (usersTo ss un k)) (fun _ vk _ => 3 - (intOf vk).toNat)
      case atStart => exact ⟨0, by omega, rfl, Hb2.out, Ho2.out⟩
      case round =>
        generalize wr = wz at *
        obtain ⟨k, hk, rfl, hBz, hOz⟩ := hrel
        have hk4 : k = 0 ∨ k = 1 ∨ k = 2 ∨ k = 3 := by omega
        obtain ⟨va, vc, rfl⟩ := own_slice' hOz
        have HBz := hid hBz
        have hszz := hBz.size
        have d0 := (hBz.cell (p := ⟨lb, 0, none⟩) hl).trans c0
        have d1 := (hBz.cell (p := ⟨lb, 1, none⟩) hl).trans c1
        have d2 := (hBz.cell (p := ⟨lb, 2, none⟩) hl).trans c2
        rcases hk4 with rfl | rfl | rfl | rfl
        · have hO' : wz.ownsRow w.heap.size 9 1 (.slice va 0 vc) 0 [] := hOz
          have HOz := hid hO'
          rw [show sums M 0 = 0 from rfl]
          clear hOz hBz hO'
          go_wp2_with (at_builtin; refine wpList_append_own _ rfl _ _ 22 rfl w.heap.size 9 i9 _ 1 16 Ybaz.underlying22 hi hz0 hz1 hz2 rfl (by decide) _ _ _ rfl HOz.out ⟨b0, 0, none⟩ 1 1 [.string ⟨#[]⟩] rfl rfl ?a1 ?a2 ?a3 ?a4 ?a5 ?_)
          case a1 =>
            intro j u hj
            rw [Go.WideShapes.add_plain, Nat.zero_add, cell_of ((HBz.out.block b0 hl0).trans H0.out)]
            simpa using hj
          case a2 => intro u hu; simp at hu; subst hu; rfl
          case a3 => unfold maxLen; omega
          case a4 => omega
          case a5 => exact hszz
          intro v' w4 ho hg _
          have Ho := hid ho; have Hg := hid hg
          clear ho hg
          go_wp2
          go_roundw
          case rel => exact ⟨1, by omega, rfl, below_grown HBz.out Hg.out (Nat.le_refl _) (fun r e => by have := (HOz.out.lt r e).1; omega), Ho.out⟩
          case measure => simp [intOf] <;> omega
        · have hO' : wz.ownsRow w.heap.size 9 1 (.slice va 1 vc) 1 [.string ⟨#[]⟩] := hOz
          have HOz := hid hO'
          rw [show sums M 1 = 1 from rfl]
          clear hOz hBz hO'
          rcases Hrow.out.2 with ⟨e, h0⟩ | ⟨g, cap, cur, e, h1, h2, h3, h4, h5, h6⟩
          · injection e with e1 e2 e3
            subst e1 e3 h0
            have hss : ss = [] := List.length_eq_zero_iff.1 HM.out
            obtain ⟨g0, hva, hvc⟩ : ∃ g0, va = some ⟨g0, 0, none⟩ ∧ 1 ≤ vc := by
              rcases HOz.out.2 with ⟨e, h⟩ | ⟨g0, cap0, cur0, e, _, _, h, _⟩
              · omega
              · injection e with e1 e2 e3
                exact ⟨g0, e1, by omega⟩
            subst hva
            have hrun := run_append_nil2 wz _ _ _ _ HOz.out
            go_wp2
            go_roundw
            case rel =>
              refine ⟨2, by omega, rfl, HBz.out, ?_⟩
              subst hss
              exact HOz.out
            case measure => simp [intOf] <;> omega
          · injection e with e1 e2 e3
            subst e1 e3
            have hgl := heap_lt h2
            have Hh := hid (And.intro h2 h6)
            clear h1 h2 h3 h4 h5 h6
            go_wp2_with (at_builtin; refine wpList_append_own _ rfl _ _ 22 rfl w.heap.size 9 i9 _ 1 16 Ybaz.underlying22 hi hz0 hz1 hz2 rfl (by decide) _ _ _ rfl HOz.out ⟨g, 0, none⟩ M nc (ss.map encStr) rfl ?e0 ?e1 ?e2 ?e3 ?e4 ?e5 ?_)
            case e0 => simp [HM.out]
            case e1 =>
              intro j u hj
              obtain ⟨h2, h6⟩ := Hh.out
              have hjl : j < M := by rw [← HM.out]; exact (List.getElem?_eq_some_iff.1 hj).1
              have h7 : (cur.toList.take (M * 1))[j]? = (ss.map encStr)[j]? := by rw [h6]
              rw [List.getElem?_take, if_pos (by omega), List.getElem?_map, hj] at h7
              rw [cell_of ((HBz.out.block g hgl).trans h2)]
              simpa using h7
            case e2 => intro u hu; rfl
            case e3 => unfold maxLen; omega
            case e4 => omega
            intro v' w4 ho hg _
            have Ho := hid ho; have Hg := hid hg
            clear ho hg
            go_wp2
            go_roundw
            case rel =>
              refine ⟨2, by omega, rfl, below_grown HBz.out Hg.out (Nat.le_refl _) (fun r e => by have := (HOz.out.lt r e).1; omega), ?_⟩
              rw [show sums M 2 = 1 + M by simp [sums]; omega]
              exact Ho.out
            case measure => simp [intOf] <;> omega
        · have hO' : wz.ownsRow w.heap.size 9 1 (.slice va (M + 1) vc) (M + 1) (.string ⟨#[]⟩ :: ss.map encStr) := hOz
          have HOz := hid hO'
          rw [show sums M 2 = M + 1 from rfl]
          clear hOz hBz hO'
          go_wp2_with (at_builtin; refine wpList_append_own _ rfl _ _ 22 rfl w.heap.size 9 i9 _ 1 16 Ybaz.underlying22 hi hz0 hz1 hz2 rfl (by decide) _ _ _ rfl HOz.out ⟨b2, 0, none⟩ 1 1 [.string un] rfl rfl ?g1 ?g2 ?g3 ?g4 ?g5 ?_)
          case g1 =>
            intro j u hj
            rw [Go.WideShapes.add_plain, Nat.zero_add, cell_of ((HBz.out.block b2 hl2).trans H2.out)]
            simpa using hj
          case g2 => intro u hu; simp at hu; subst hu; rfl
          case g3 => unfold maxLen; omega
          case g4 => omega
          case g5 => exact hszz
          intro v' w4 ho hg _
          have Ho := hid ho; have Hg := hid hg
          clear ho hg
          go_wp2
          go_roundw
          case rel => exact ⟨3, by omega, rfl, below_grown HBz.out Hg.out (Nat.le_refl _) (fun r e => by have := (HOz.out.lt r e).1; omega), Ho.out⟩
          case measure => simp [intOf] <;> omega
        · have HOz := hid hOz
          clear hOz hBz
          go_wp2
          go_ret
          exact ⟨_, rfl, HOz.out, HBz.out⟩
end Go.Proofs.YbulkchuuGreatDoor
