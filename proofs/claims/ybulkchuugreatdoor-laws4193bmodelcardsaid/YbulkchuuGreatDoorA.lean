import Derived.Test.YbulkchuuGreatDoorRows
import Derived.Handy
import Derived.WalkLawsBesides
import Derived.RegionTactic
import Derived.BigQuiet
import Derived.BigRegion
import Derived.BigGuard
import Derived.BigCall
import Derived.CellFam
import Derived.Deep.QuietTactic
import Derived.Lib.Builder
import Derived.Lib.QuietBelow
namespace Go.Proofs.YbulkchuuGreatDoor
open Go.RowKit
set_option linter.unusedVariables false
set_option linter.unusedSimpArgs false
set_option maxRecDepth 100000

theorem hid {p : Prop} (h : p) : Hid p := h
theorem heap_lt {w : World} {b : Nat} {o : Obj} (h : w.heap[b]? = some o) : b < w.heap.size := (Array.getElem?_eq_some_iff.1 h).1
theorem cell_of {w : World} {b : Nat} {cs : Array Value} {T : TypeId} {fr : Nat × Nat} (hb : w.heap[b]? = some (.cells cs T fr)) (j : Nat) : w.cell? ⟨b, j, none⟩ = cs[j]? := by
  simp [World.cell?, hb]
theorem frozen_of {w : World} {b : Nat} {cs : Array Value} {T : TypeId} (hb : w.heap[b]? = some (.cells cs T (0, 0))) (j : Nat) : w.frozen? ⟨b, j, none⟩ = false := by
  simp [World.frozen?, hb]
theorem heap_set {w : World} {b : Nat} {cs : Array Value} {T : TypeId} {fr : Nat × Nat} (hb : w.heap[b]? = some (.cells cs T fr)) (j : Nat) (v : Value) :
    (w.setCell ⟨b, j, none⟩ v).heap[b]? = some (.cells (cs.setIfInBounds j v) T fr) := by
  simp [World.setCell, Array.getElem?_modify, hb]
theorem cell_eq {w w' : World} {k : Nat} (h : w'.heap[k]? = w.heap[k]?) (j : Nat) : w'.cell? ⟨k, j, none⟩ = w.cell? ⟨k, j, none⟩ := by
  simp [World.cell?, h]

/-- what a piece of work leaves: the blocks that stood, but for those of S; every row keeps its size -/
def Fr (S : Nat → Prop) (w w' : World) : Prop :=
  w'.os = w.os ∧ w'.tape = w.tape ∧ w'.output = w.output ∧ w.heap.size ≤ w'.heap.size ∧ (∀ k, k < w.heap.size → ¬ S k → w'.heap[k]? = w.heap[k]?) ∧
  ∀ (k : Nat) (cur : Array Value) (T : TypeId) (fr : Nat × Nat), w.heap[k]? = some (.cells cur T fr) → ∃ cur', w'.heap[k]? = some (Obj.cells cur' T fr) ∧ cur'.size = cur.size
theorem Fr.refl (S : Nat → Prop) (w : World) : Fr S w w := ⟨rfl, rfl, rfl, Nat.le_refl _, fun _ _ _ => rfl, fun k cur T fr h => ⟨cur, h, rfl⟩⟩
theorem Fr.size {S : Nat → Prop} {w w' : World} (h : Fr S w w') : w.heap.size ≤ w'.heap.size := h.2.2.2.1
theorem Fr.block {S : Nat → Prop} {w w' : World} (h : Fr S w w') (k : Nat) (hk : k < w.heap.size) (hs : ¬ S k) : w'.heap[k]? = w.heap[k]? := h.2.2.2.2.1 k hk hs
theorem Fr.row {S : Nat → Prop} {w w' : World} (h : Fr S w w') {k : Nat} {cur : Array Value} {T : TypeId} {fr : Nat × Nat} (hk : w.heap[k]? = some (.cells cur T fr)) : ∃ cur', w'.heap[k]? = some (.cells cur' T fr) ∧ cur'.size = cur.size := h.2.2.2.2.2 k cur T fr hk
theorem Fr.keep {S : Nat → Prop} {w w' : World} (h : Fr S w w') {k : Nat} {o : Obj} (hk : w.heap[k]? = some o) (hs : ¬ S k) : w'.heap[k]? = some o := (h.block k (heap_lt hk) hs).trans hk
theorem Fr.trans' {S S' : Nat → Prop} {w w1 w2 : World} (h : Fr S w w1) (k : Fr S' w1 w2) (hs : ∀ k, k < w.heap.size → S' k → S k) : Fr S w w2 := by
  obtain ⟨a1, a2, a3, a4, a5, a6⟩ := h
  obtain ⟨c1, c2, c3, c4, c5, c6⟩ := k
  refine ⟨c1.trans a1, c2.trans a2, c3.trans a3, Nat.le_trans a4 c4, fun i hi h' => (c5 i (by omega) (fun h'' => h' (hs i hi h''))).trans (a5 i hi h'), fun i cur T fr h => ?_⟩
  obtain ⟨cur1, h1, e1⟩ := a6 i cur T fr h
  obtain ⟨cur2, h2, e2⟩ := c6 i cur1 T fr h1
  exact ⟨cur2, h2, e2.trans e1⟩
theorem Fr.trans {S : Nat → Prop} {w w1 w2 : World} (h : Fr S w w1) (k : Fr S w1 w2) : Fr S w w2 := h.trans' k (fun _ _ h => h)
theorem Fr.mono {S S' : Nat → Prop} {w w' : World} (h : Fr S w w') (hs : ∀ k, k < w.heap.size → S k → S' k) : Fr S' w w' := by
  obtain ⟨a1, a2, a3, a4, a5, a6⟩ := h
  exact ⟨a1, a2, a3, a4, fun i hi h' => a5 i hi (fun h'' => h' (hs i hi h'')), a6⟩
theorem Fr.of_new {S : Nat → Prop} {w w' : World} (h : Below w.heap.size w w') : Fr S w w' :=
  ⟨h.os, h.tape, h.output, h.size, fun k hk _ => h.block k hk, fun k cur T fr hk => ⟨cur, (h.block k (heap_lt hk)).trans hk, rfl⟩⟩
theorem Fr.below {S : Nat → Prop} {B : Nat} {w w' : World} (h : Fr S w w') (hB : B ≤ w.heap.size) (hs : ∀ k, k < B → ¬ S k) : Below B w w' := by
  obtain ⟨a1, a2, a3, a4, a5, _⟩ := h
  exact ⟨a1, a2, a3, a4, fun k hk => a5 k (by omega) (hs k hk)⟩
theorem Fr.alloc {S : Nat → Prop} {w w' : World} (h : Fr S w w') (o : Obj) : Fr S w (w'.alloc o) := by
  obtain ⟨a1, a2, a3, a4, a5, a6⟩ := h
  refine ⟨a1, a2, a3, by simp; omega, fun i hi hs => ?_, fun i cur T fr hi => ?_⟩
  · rw [Below.heap_alloc _ _ _ (by omega)]; exact a5 i hi hs
  · obtain ⟨cur1, h1, e1⟩ := a6 i cur T fr hi
    exact ⟨cur1, (Below.heap_alloc _ _ _ (heap_lt h1)).trans h1, e1⟩
theorem Fr.setCell {S : Nat → Prop} {w w' : World} (h : Fr S w w') (k j : Nat) (v : Value) (hk : S k ∨ w.heap.size ≤ k) : Fr S w (w'.setCell ⟨k, j, none⟩ v) := by
  obtain ⟨a1, a2, a3, a4, a5, a6⟩ := h
  refine ⟨a1, a2, a3, by simp [World.setCell]; omega, fun i hi hs => ?_, fun i cur T fr hi => ?_⟩
  · rw [Below.heap_setCell _ _ _ _ (by rcases hk with hk | hk <;> simp <;> intro e <;> subst e <;> first | exact hs hk | omega)]; exact a5 i hi hs
  · obtain ⟨cur1, h1, e1⟩ := a6 i cur T fr hi
    by_cases e : i = k
    · subst e
      exact ⟨_, heap_set h1 j v, by simpa using e1⟩
    · exact ⟨cur1, (Below.heap_setCell _ _ _ _ (by simpa using e)).trans h1, e1⟩
theorem Fr.drewN {S : Nat → Prop} {w w' : World} (h : Fr S w w') (n : Nat) : Fr S w (w'.drewN n) := h
theorem Fr.drew {S : Nat → Prop} {w w' : World} (h : Fr S w w') : Fr S w w'.drew := h
end Go.Proofs.YbulkchuuGreatDoor
