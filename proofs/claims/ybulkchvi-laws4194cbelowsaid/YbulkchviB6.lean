import Derived.Test.YbulkchviB5
import Derived.Test.YbulkchviSort
import Derived.Shelf.SlSortCmp.WholeK
set_option maxRecDepth 100000
namespace Go.Proofs.Ybulkchvi
open Go.Shelf Go.RowKit Go.Lib
open Go.Sort (HoldsK PermIn SortedIn SWO flatK putRowK grow)
set_option linter.unusedVariables false
set_option linter.unusedSimpArgs false

def cmpLo (x y : Int × Int) : Int := Lib.compareInt x.1 y.1
theorem ltLo (x y : Int × Int) : ltOf cmpLo x y = decide (x.1 < y.1) := by
  unfold ltOf cmpLo Lib.compareInt
  by_cases h1 : x.1 < y.1
  · simp [h1]
  · by_cases h2 : y.1 < x.1 <;> simp [h1, h2]
theorem swoLo : SWO (ltOf cmpLo) where
  irrefl x := by rw [ltLo]; simp
  trans x y z h1 h2 := by rw [ltLo] at *; simp at *; omega
  ntrans x y z h1 h2 := by rw [ltLo] at *; simp at *; omega
theorem cmpLays19 (blk off size : Nat) (w : World) : CmpLays Yba.prog 19 #[] enc2 2 cmpLo blk off size w :=
  fun _ _ _ _ x y => closure19 x y _

/-- the sorted world: the row's block, the others -/
theorem sorted_block {w : World} {g N : Nat} {h : Nat → Value} (hB : BlkAt g N h w) (d : Array (Int × Int)) (n : Nat) (os : Array Obj) : ∃ h', BlkAt g N h' (sortWorldK enc2 2 w g 0 n d os) := by
  obtain ⟨cur, h1, h2, h3⟩ := hB
  have hlt := heap_lt h1
  unfold sortWorldK
  have e : (grow (putRowK enc2 2 (Sort.ahead w n) g 0 d) os).heap[g]? = some (.cells (Sort.putCells id 0 (flatK enc2 2 d) cur) 57 (0, 0)) := by
    simp only [grow]
    rw [Array.getElem?_append_left (by simp [putRowK, Sort.putRow, Sort.mapBlock, Sort.ahead]; exact hlt)]
    simp [putRowK, Sort.putRow, Sort.mapBlock, Sort.ahead, Array.getElem?_modify, h1, Sort.onCells]
  refine ⟨fun t => (Sort.putCells id 0 (flatK enc2 2 d) cur)[t]?.getD (.bool false), _, e, by simp [Sort.putCells, h2], fun t ht => ?_⟩
  have : t < (Sort.putCells id 0 (flatK enc2 2 d) cur).size := by simp [Sort.putCells]; omega
  simp [Array.getElem?_eq_getElem this]
theorem sorted_frame (w : World) (g : Nat) (d : Array (Int × Int)) (n : Nat) (os : Array Obj) : Fr g g none w (sortWorldK enc2 2 w g 0 n d os) := by
  unfold sortWorldK
  refine ⟨rfl, rfl, rfl, by simp [grow, putRowK, Sort.putRow, Sort.mapBlock, Sort.ahead], fun k hk h1 _ _ => ?_⟩
  simp only [grow]
  rw [Array.getElem?_append_left (by simp [putRowK, Sort.putRow, Sort.mapBlock, Sort.ahead]; exact hk)]
  simp [putRowK, Sort.putRow, Sort.mapBlock, Sort.ahead, Array.getElem?_modify, Ne.symm h1]

theorem get_flat2 (d : Array (Int × Int)) (t : Nat) (h : t < d.size) : (flatK enc2 2 d)[t * 2]! = .int .i32 (d[t]!).1 ∧ (flatK enc2 2 d)[t * 2 + 1]! = .int .i32 (d[t]!).2 := by
  rw [Sort.get_flatK _ _ _ _ (by omega), Sort.get_flatK _ _ _ _ (by omega), show t * 2 / 2 = t by omega, show (t * 2 + 1) / 2 = t by omega, show t * 2 % 2 = 0 by omega, show (t * 2 + 1) % 2 = 1 by omega]
  exact ⟨rfl, rfl⟩

theorem mergeOK : MergeOK := by
  intro g c1 cap D0 h0 w hc hcap hc2 hB hcells hrange
  have eg : ∀ args w, (callFunc 19 args).run Yba.prog w = .ok (.enter 19 args) w := enters_of Yba.func19 (by kernel_rfl) rfl
  obtain ⟨d, hd⟩ : ∃ d : Array (Int × Int), d = (Array.range (c1 + 1)).map D0 := ⟨_, rfl⟩
  have hds : d.size = c1 + 1 := by rw [hd]; simp
  have hdt : ∀ t, t < c1 + 1 → d[t]! = D0 t := fun t ht => by rw [getElem!_pos d t (by omega)]; simp [hd]
  have hH : HoldsK enc2 2 w g 0 d := by
    intro j hj
    rw [Sort.size_flatK, hds] at hj
    rw [Nat.zero_add]
    refine ⟨?_, hB.frozen j⟩
    have hcj := hB.cell j (by omega)
    rw [hcj]
    have ht : j / 2 < c1 + 1 := by omega
    obtain ⟨g1, g2⟩ := get_flat2 d (j / 2) (by omega)
    obtain ⟨k1, k2⟩ := hcells (j / 2) ht
    rw [hdt _ ht] at g1 g2
    by_cases e : j % 2 = 0
    · rw [show j / 2 * 2 = j by omega] at g1 k1
      rw [k1]; simp [g1]
    · rw [show j / 2 * 2 + 1 = j by omega] at g2 k2
      rw [k2]; simp [g2]
  have hcon := AnyQ.slices_SortFunc_eq Yba.sortRun 2 Yba.isAgg57 Yba.sizeOf57 enc2 (fun _ => rfl) (fun x v hv => by simp [enc2] at hv; rcases hv with rfl | rfl <;> rfl) cmpLo swoLo 19 #[] g 0 cap d w eg (cmpLays19 g 0 d.size w) hH hB.lt (by omega)
  have hps := Sort.pdq_sorts (ltOf cmpLo) swoLo d 0 d.size (Lib.bitLen d.size) true true (Nat.zero_le _) (Nat.le_refl _) (Or.inl rfl)
  change Calls Yba.prog 18 _ _ _ at hcon
  generalize Sort.pdq (ltOf cmpLo) d 0 d.size (Lib.bitLen d.size) true true = d' at hcon hps
  obtain ⟨hperm, hsorted⟩ := hps
  have hsz : d'.size = c1 + 1 := by rw [hperm.1, hds]
  rw [hds] at hcon hsorted
  have hp : d'.toList.Perm d.toList := by
    have h := hperm.2.2
    have e1 : (d'.extract 0 d.size).toList = d'.toList := by rw [← hperm.1]; simp
    have e2 : (d.extract 0 d.size).toList = d.toList := by simp
    rw [e1, e2] at h
    exact h
  have hmem : ∀ t, t < c1 + 1 → ∃ t', t' < c1 + 1 ∧ d'[t]! = D0 t' := fun t ht => by
    have h1 : d'[t]! ∈ d.toList := hp.mem_iff.1 (by rw [getElem!_pos d' t (by omega)]; simp)
    obtain ⟨t', ht', e⟩ := List.getElem_of_mem h1
    simp at ht'
    refine ⟨t', by omega, ?_⟩
    rw [← e, ← hdt t' (by omega), getElem!_pos d t' (by omega)]
    simp
  have hmem' : ∀ t, t < c1 + 1 → ∃ t', t' < c1 + 1 ∧ D0 t = d'[t']! := fun t ht => by
    have h1 : D0 t ∈ d'.toList := hp.mem_iff.2 (by rw [← hdt t ht, getElem!_pos d t (by omega)]; simp)
    obtain ⟨t', ht', e⟩ := List.getElem_of_mem h1
    simp at ht'
    refine ⟨t', by omega, ?_⟩
    rw [← e, getElem!_pos d' t' (by omega)]
    simp
  have hcov : ∀ v, CovN (fun t => d'[t]!) (c1 + 1) v ↔ CovN D0 (c1 + 1) v := fun v => by
    constructor
    · rintro ⟨t, ht, h⟩
      obtain ⟨t', ht', e⟩ := hmem t ht
      exact ⟨t', ht', by rw [← e]; exact h⟩
    · rintro ⟨t, ht, h⟩
      obtain ⟨t', ht', e⟩ := hmem' t ht
      exact ⟨t', ht', by simp only; rw [← e]; exact h⟩
  refine (merge_tail g c1 cap (fun t => d'[t]!) w hc hcap hc2 (fun t ht => ?_) (fun t ht => ?_) (hcon.mono ?_)).mono ?_
  · obtain ⟨t', ht', e⟩ := hmem t ht
    simp only [e]
    exact hrange t' ht'
  · have := hsorted t (t + 1) (Nat.zero_le _) (by omega) ht
    rw [ltLo] at this
    simpa using this
  · rintro e w' ⟨rfl, n, os, rfl⟩
    obtain ⟨h', hB'⟩ := sorted_block hB d' n os
    have hHs := holdsK_sortWorldK_c enc2 2 w g 0 d d' n os hH hB.lt (by rw [hsz, hds])
    refine ⟨rfl, sorted_frame w g d' n os, h', hB', fun t ht => ?_⟩
    obtain ⟨g1, g2⟩ := get_flat2 d' t (by omega)
    have k1 := (hHs (t * 2) (by rw [Sort.size_flatK]; omega)).1
    have k2 := (hHs (t * 2 + 1) (by rw [Sort.size_flatK]; omega)).1
    rw [Nat.zero_add, hB'.cell _ (by omega)] at k1 k2
    simp only [Option.some.injEq, id] at k1 k2
    rw [g1] at k1
    rw [g2] at k2
    exact ⟨k1, k2⟩
  · rintro e w' ⟨p, f, h, h1, h2, h3, h4, h5⟩
    exact ⟨p, f, h, h1, h2, h3, fun v => (h4 v).trans (hcov v), h5⟩
end Go.Proofs.Ybulkchvi
