import Derived.Test.YbulkchuuGreatDoorZ1
import Derived.Test.YbulkchuuGreatDoorR2
import Derived.Test.YbulkchuuGreatDoorQ2
import Derived.WideKeyEntry
namespace Go.Proofs.YbulkchuuGreatDoor
open Go.RowKit Go.Maps Go.ChangeMaps
set_option linter.unusedVariables false
set_option linter.unusedSimpArgs false
set_option maxRecDepth 100000

theorem klaw9 : WideMaps.KeyLaw Ybaz.prog 9 := WideMaps.string_law Ybaz.underlying9
/-- 'm[k], .. = v': the entry is laid, then stored -/
theorem entry67 {w : World} {ix n : Nat} {Di : DataW Value} (ho : w.ownsMap Ybaz.prog 9 Rh ix n Di) (hn : n < maxLen) (u : ByteArray) (hu : u.size ≤ maxLen) (val : Value) :
    ∃ (v0 : Value) (st : Nat) (w1 w3 : World), (Instr.mapEntry 67 (.map (some ix)) (.string u)).run Ybaz.prog w = .ok (.tuple #[v0, .int .i64 st]) w1 ∧ (Instr.entryStore 67 (.map (some ix)) (.int .i64 st) val).run Ybaz.prog w1 = .ok () w3 ∧
      w.grownBy w3 (some ix) ∧ w3.heap.size = w.heap.size ∧ w3.ownsMap Ybaz.prog 9 Rh ix (n + 1) (Di.put (.string u.data.toList) (.held val)) := by
  obtain ⟨es, clock, hb, F, hs, hD⟩ := ho
  obtain ⟨v0, st, es1, clock1, h1, _, h3⟩ := WideElems.entry_then_store klaw9 Ybaz.underlying67 Ybaz.zeroValue3 hb F (key9' u hu)
  obtain ⟨es', clock', k1, k2⟩ := h3 _ val (heap_setBlock_same hb (.map es1 clock1))
  obtain ⟨w', hrun, r1, r2⟩ := (show w.ownsMap Ybaz.prog 9 Rh ix n Di from ⟨es, clock, hb, F, hs, hD⟩).update law9' Ybaz.underlying67 hn (key9' u hu) (val := val) (d := .held val) (ps := []) rfl
  rw [k2] at hrun
  injection hrun with _ hw
  have hsame : setBlock (setBlock w ix (.map es1 clock1)) ix (.map es' clock') = setBlock w ix (.map es' clock') := by
    unfold setBlock
    simp
  rw [hsame] at k1
  refine ⟨v0, st, _, _, h1, k1, ?_, ?_, ?_⟩
  · rw [hw]; exact r2
  · simp [setBlock]
  · rw [hw]; exact r1
/-- the users' names -/
def uName (ss : List (List UInt8)) (un : ByteArray) : List ByteArray := ⟨#[]⟩ :: (ss.map (fun x => (⟨x.toArray⟩ : ByteArray)) ++ [un])
theorem users_eq (ss : List (List UInt8)) (un : ByteArray) : users ss un = (uName ss un).map Value.string := by simp [users, uName]
theorem uName_len (ss : List (List UInt8)) (un : ByteArray) : (uName ss un).length = ss.length + 2 := by simp [uName]
theorem user_cell {w : World} {B U uc i : Nat} {ua : Option Addr} {uL : List ByteArray} (h : w.ownsRow B 9 1 (.slice ua U uc) U (uL.map Value.string)) {u : ByteArray} (hu : uL[i]? = some u) : ∃ gu, ua = some ⟨gu, 0, none⟩ ∧ B ≤ gu ∧ gu < w.heap.size ∧ w.cell? ⟨gu, i, none⟩ = some (.string u) := by
  rcases h.2 with ⟨e, h0⟩ | ⟨g, cap, cur, e, h1, h2, h3, h4, h5, h6⟩
  · have := h.1
    rw [h0] at this
    have hnil : uL = [] := by simpa using this
    rw [hnil] at hu; simp at hu
  · injection e with e1
    refine ⟨g, e1, h1, heap_lt h2, ?_⟩
    rw [cell_of h2]
    have : (uL.map Value.string)[i]? = some (.string u) := by simp [hu]
    rw [← h6, List.getElem?_take] at this
    split at this
    · simpa using this
    · cases this
def lastI (uL : List ByteArray) : Nat → ByteArray → Nat
  | 0, _ => 0
  | i + 1, u => if uL[i]? = some u then i else lastI uL i u
def IxAt (uL : List ByteArray) (i : Nat) (Di : DataW Value) : Prop := ∀ u : ByteArray, u.size ≤ maxLen → Di.atKey (.string u.data.toList) (.held (.int .i64 0)) = .held (.int .i64 (lastI uL i u))
theorem IxAt.start (uL : List ByteArray) : IxAt uL 0 (.map []) := fun u _ => by simp [DataW.atKey, lastI]
theorem IxAt.put {uL : List ByteArray} {i n ix : Nat} {Di : DataW Value} {w : World} {u : ByteArray} (h : IxAt uL i Di) (ho : w.ownsMap Ybaz.prog 9 Rh ix n Di) (hu : uL[i]? = some u) (hs : u.size ≤ maxLen) : IxAt uL (i + 1) (Di.put (.string u.data.toList) (.held (.int .i64 (i : Int)))) := fun u' hs' => by
  unfold lastI
  by_cases e : u = u'
  · subst e
    rw [if_pos hu]
    exact atKey_put_same ho.isMap (law9'.key (key9' u hs)) _ _
  · have hne : Lit.string u'.data.toList ≠ .string u.data.toList := fun e' => by
      injection e' with e'
      have e2 : u'.data = u.data := by rw [← Array.toList_inj]; exact e'
      exact e (ByteArray.ext e2).symm
    rw [atKey_put_other hne, if_neg (by rw [hu]; simpa using e)]
    exact h u' hs'
def EvAt (eb U i : Nat) (w : World) : Prop := ∃ cur, w.heap[eb]? = some (.cells cur 3 (0, 0)) ∧ U ≤ cur.size ∧ ∀ j, j < i → cur[j]? = some (.int .i64 (j : Int))
theorem EvAt.set {eb U i : Nat} {w : World} (h : EvAt eb U i w) (hi : i < U) : EvAt eb U (i + 1) (w.setCell ⟨eb, i, none⟩ (.int .i64 (i : Int))) := by
  obtain ⟨cur, h1, h2, h3⟩ := h
  refine ⟨_, heap_set h1 i _, by simpa using h2, fun j hj => ?_⟩
  rw [Array.getElem?_setIfInBounds]
  by_cases e : i = j
  · subst e; simp; omega
  · rw [if_neg e]; exact h3 j (by omega)
theorem EvAt.move {eb U i : Nat} {w w' : World} (h : EvAt eb U i w) (hk : w'.heap[eb]? = w.heap[eb]?) : EvAt eb U i w' := by
  obtain ⟨cur, h1, h2⟩ := h; exact ⟨cur, hk.trans h1, h2⟩
theorem Fr.grown {S : Nat → Prop} {w w1 w2 : World} {b : Nat} (h : Fr S w w1) (hg : w1.grownBy w2 (some b)) (hb : S b) (hm : ∃ es c, w1.heap[b]? = some (.map es c)) : Fr S w w2 := by
  obtain ⟨a1, a2, a3, a4, a5, a6⟩ := h
  refine ⟨hg.os.trans a1, hg.tape.trans a2, hg.output.trans a3, Nat.le_trans a4 hg.size, fun i hi hs => (hg.block i (by omega) (fun e => hs (by injection e with e; rw [e]; exact hb))).trans (a5 i hi hs), fun i cur T fr hi => ?_⟩
  obtain ⟨cur1, h1, e1⟩ := a6 i cur T fr hi
  refine ⟨cur1, (hg.block i (heap_lt h1) (fun e => ?_)).trans h1, e1⟩
  injection e with e
  subst e
  obtain ⟨es, c, hm⟩ := hm
  rw [h1] at hm; cases hm
end Go.Proofs.YbulkchuuGreatDoor
