import Derived.Test.Ybulkchvi1
import Derived.ProofKit
import Derived.OpenShut
import Derived.ChangeOld
import Derived.Deep.Slices
namespace Go.Proofs.Ybulkchvi
open Go.ChangeShapes Go.WideShapes Go.ChangeAt Go.RowKit
set_option linter.unusedVariables false
set_option linter.unusedSimpArgs false

theorem own : ownKnob Yba.prog.godebug = none := by kernel_rfl
theorem laidOut : laidOutB Yba.prog = true := by kernel_rfl
theorem cells22 : Yba.prog.cellsOf 22 = 1 := by kernel_rfl
theorem cells4 : Yba.prog.cellsOf 4 = 1 := by kernel_rfl

section
variable {H : Type} {enc : TypeId × Value → H} {W : World} {spare : Nat → Bool} {held : Bool}

/-- a row of numbers that came in -/
theorem open_bits {t e : TypeId} {a : Option Addr} {n c fuel : Nat} {x : DataW H × List MemPlace} (ht : Yba.prog.underlying t = some (.slice e)) (he : Yba.prog.underlying e = some (.int .u64)) (hc : Yba.prog.cellsOf e = 1)
    (h : DataW.trod enc Yba.prog W 0 (fun _ => true) held fuel t [.slice a n c] = some x) :
    ∃ bit : Nat → Int, n ≤ maxLen ∧ RowAt W.heap.size a n (fun j => .int .u64 (bit j)) W ∧ ∀ j, 0 ≤ bit j ∧ bit j < 18446744073709551616 := by
  rcases open_ints ht he hc h with ⟨hcs, _⟩ | ⟨ad, l, cc, zs, hcs, _, hl, hm, hz, _, hcell, hwz⟩
  · injection hcs with hcs; injection hcs with e1 e2 e3
    subst e1 e2 e3
    exact ⟨fun _ => 0, by unfold maxLen; omega, fun j hj => by omega, fun j => by simp⟩
  · injection hcs with hcs; injection hcs with e1 e2 e3
    subst e1 e2 e3
    have hz' : zs.length = c := by simpa using hz
    refine ⟨fun j => zs[j]?.getD 0, by omega, fun j hj => ?_, fun j => by have := range_u64 hwz j; simp only; omega⟩
    obtain ⟨b, off, rfl, hcc⟩ := ints_at hcell (by omega)
    refine ⟨b, off, rfl, World.block_lt_of_cell? W _ (hcc j (by omega)), ?_⟩
    have := hcc j (by omega)
    simpa [List.getD] using this

/-- a row of bools that came in -/
theorem open_flags {t e : TypeId} {a : Option Addr} {n c fuel : Nat} {x : DataW H × List MemPlace} (ht : Yba.prog.underlying t = some (.slice e)) (he : Yba.prog.underlying e = some .bool) (hc : Yba.prog.cellsOf e = 1)
    (h : DataW.trod enc Yba.prog W 0 (fun _ => true) held fuel t [.slice a n c] = some x) :
    ∃ rb : Nat → Bool, n ≤ maxLen ∧ RowAt W.heap.size a n (fun j => .bool (rb j)) W := by
  rcases Go.Deep.open_slice1 ht hc h with ⟨hcs, _⟩ | ⟨ad, l, cc, m, fu, V, D, Pl, hcs, _, hl, hm, hmm, _, hx⟩
  · injection hcs with hcs; injection hcs with e1 e2 e3
    subst e1 e2 e3
    exact ⟨fun _ => false, by unfold maxLen; omega, fun j hj => by omega⟩
  · injection hcs with hcs; injection hcs with e1 e2 e3
    subst e1 e2 e3
    have hm' : m = c := by simpa using hmm
    refine ⟨fun j => match V j with | .bool b => b | _ => false, by omega, fun j hj => ?_⟩
    obtain ⟨h1, h2⟩ := hx j (by omega)
    obtain ⟨b, hb, _⟩ := DataW.trod_bool he h2
    injection hb with hb
    rw [hb] at h1
    obtain ⟨b0, off, spot⟩ := ad
    have hspot : spot = none := by
      have h0 := (hx 0 (by omega)).1
      simpa [Addr.add] using World.cell?_spot h0
    subst hspot
    rw [Go.WideShapes.add_plain] at h1
    exact ⟨b0, off, rfl, World.block_lt_of_cell? W _ h1, by simp only [hb]; exact h1⟩
end
end Go.Proofs.Ybulkchvi
