import Derived.Test.YbulkchuuGreatDoorA
import Derived.Test.YbulkchuuGreatDoorShelf
import Derived.Test.YbulkchuuGreatDoorIter
namespace Go.Proofs.YbulkchuuGreatDoor
open Go.RowKit Go.Maps Go.Sort Go.Shelf
set_option linter.unusedVariables false
set_option linter.unusedSimpArgs false
set_option maxRecDepth 100000

theorem sorts29 (m : Nat) : AnyZ.SortsIn Ybaz.prog Ybaz.sorted29_ren Fence.wide m :=
  ⟨fun blk off cap ss W hH hblk hsz => callsIn_wide.2 (AnyM.slices_Sort_string Ybaz.laysSlM6_f15 blk off cap ss W hH hblk hsz),
   fun p cap W => callsIn_wide.2 (AnyM.slices_Sort_string_none Ybaz.laysSlM6_f15 p cap W)⟩
/-- maps.Keys -/
theorem keys30 (mb : Option Nat) (W : World) : Calls Ybaz.prog 30 #[.map mb] W fun e w' => e = .returned (.func (.func 74) #[] #[.pointer (some ⟨W.heap.size, 0, none⟩)]) ∧ w' = W.alloc (.cells #[.map mb] 137) :=
  (callsIn_wide (n := 5)).1 (AnyZ.keys_in Ybaz.keys30 Fence.wide 5 trivial rfl mb W)
set_option maxHeartbeats 1000000 in
/-- slices.Sorted at what maps.Keys handed back, in whatever world the closure's block stands in -/
theorem sorted29 {H : Type} (cb b nn : Nat) (D0 : DataW H) (R : Value → Option (DataW H × List MemPlace)) (w : World) (hc : w.heap[cb]? = some (.cells #[.map (some b)] 137 (0, 0))) (hown : w.ownsMap Ybaz.prog 9 R b nn D0) (hmax : Maps.size D0 ≤ maxLen) (hbytes : Maps.size D0 * 16 ≤ 140737488355328) :
    Calls Ybaz.prog 29 #[.func (.func 74) #[] #[.pointer (some ⟨cb, 0, none⟩)]] w fun e w' => ∃ (v : Value) (ss : List (List UInt8)), e = .returned v ∧ ss.Perm (strKeys D0) ∧
      w'.ownsRow w.heap.size 9 1 v ss.length ((ss.mergeSort (fun x y => decide (x ≤ y))).map encStr) ∧ (v = .slice none 0 0 ↔ ss = []) ∧ Below w.heap.size w w' := by
  have hcl := heap_lt hc
  have hseq : SeqGives Fence.wide 2 Ybaz.prog 74 #[.pointer (some ⟨cb, 0, none⟩)] encStr (fun ss => ss.Perm (strKeys D0)) (Maps.size D0) w :=
    AnyZ.keys_gives (ρ := Ybaz.keys30_ren) { Ybaz.keys30 with } Fence.wide _ trivial rfl (by omega) cb b nn D0 w (by first | omega | exact hc | simp [cell_of hc]) (by first | omega | exact hc | simp [cell_of hc]) hown
  exact (callsIn_wide (n := 5)).1 (AnyZ.sorted_in Ybaz.sorted29 Fence.wide 5 trivial trivial trivial trivial rfl (by omega) (sorts29 _) (enters_of Ybaz.func15 (by kernel_rfl) rfl) 74 #[.pointer (some ⟨cb, 0, none⟩)] trivial (enters_of Ybaz.func74 (by kernel_rfl) rfl) _ _ hmax hbytes _ hseq)
end Go.Proofs.YbulkchuuGreatDoor
