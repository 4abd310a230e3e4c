import Derived.Test.YbulkchuuGreatDoorA
namespace Go.Proofs.YbulkchuuGreatDoor
open Go.RowKit
set_option linter.unusedVariables false
set_option linter.unusedSimpArgs false
set_option maxRecDepth 100000

set_option maxHeartbeats 4000000 in
/-- identify: the principal is the user called u of the file fb -/
theorem identify32 (fb pb mb : Nat) (u : ByteArray) (lsv nm ls mm gr wk se : Value) (w : World)
    (hm : w.cell? ⟨fb, 5, none⟩ = some (.map (some mb))) (hlk : ∀ W : World, W.heap[mb]? = w.heap[mb]? → (Instr.lookup 85 (.map (some mb)) (.string u) false).run Ybaz.prog W = .ok lsv W)
    (hls : ∃ a n c, lsv = .slice a n c) (hb : w.heap[pb]? = some (.cells #[nm, ls, mm, gr, wk, se] 109 (0, 0))) :
    Calls Ybaz.prog 32 #[.pointer (some ⟨fb, 0, none⟩), .pointer (some ⟨pb, 0, none⟩), .string u] w fun e w' => e = .returned (.tuple #[]) ∧ w'.heap[pb]? = some (.cells #[.string u, lsv, .pointer (some ⟨fb, 5, none⟩), gr, .bool false, se] 109 (0, 0)) ∧ Fr (fun k => k = pb) w w' := by
  obtain ⟨la, ln, lc, rfl⟩ := hls
  have c0 : w.cell? ⟨pb, 0, none⟩ = some nm := by rw [cell_of hb]; rfl
  have c1 : w.cell? ⟨pb, 1, none⟩ = some ls := by rw [cell_of hb]; rfl
  have c2 : w.cell? ⟨pb, 2, none⟩ = some mm := by rw [cell_of hb]; rfl
  have c4 : w.cell? ⟨pb, 4, none⟩ = some wk := by rw [cell_of hb]; rfl
  have f0 := frozen_of hb 0; have f1 := frozen_of hb 1; have f2 := frozen_of hb 2; have f4 := frozen_of hb 4
  have l1 := hlk w.drew rfl
  have Hb := hid hb
  clear hb hlk
  go_enter Ybaz.func32, Ybaz.ntmps32
  go_wp2_with fail
  go_region
  go_wp2
  go_end0
  refine ⟨rfl, ?_, ?_⟩
  · show ((((w.setCell ⟨pb, 0, none⟩ (.string u)).setCell ⟨pb, 1, none⟩ (.slice la ln lc)).setCell ⟨pb, 2, none⟩ (.pointer (some ⟨fb, 5, none⟩))).setCell ⟨pb, 4, none⟩ (.bool false)).heap[pb]? = _
    rw [heap_set (heap_set (heap_set (heap_set Hb.out 0 _) 1 _) 2 _) 4 _]; rfl
  · exact (((((Fr.refl (fun k => k = pb) w).setCell pb 0 _ (.inl rfl)).setCell pb 1 _ (.inl rfl)).setCell pb 2 _ (.inl rfl)).setCell pb 4 _ (.inl rfl)).drew
end Go.Proofs.YbulkchuuGreatDoor
