import Derived.Test.YbulkchuuGreatDoorZ1
namespace Go.Proofs.YbulkchuuGreatDoor
open Go.RowKit Go.Maps Go.Sort
set_option linter.unusedVariables false
set_option linter.unusedSimpArgs false
set_option maxRecDepth 100000

/-! ### sorted, compacted -/
theorem str_eq {l l' : List (List UInt8)} (h1 : l.Pairwise (fun a b => leB a b = true)) (h2 : l'.Pairwise (fun a b => leB a b = true)) (n1 : l.Nodup) (n2 : l'.Nodup) (hm : ∀ x, x ∈ l ↔ x ∈ l') : l = l' := by
  refine List.Perm.eq_of_pairwise (le := fun a b => leB a b = true) (fun a b _ _ k1 k2 => ?_) h1 h2 ((List.perm_ext_iff_of_nodup n1 n2).2 hm)
  simp only [leB, decide_eq_true_eq] at k1 k2
  exact List.le_antisymm k1 k2
theorem keeps_iff (d : Array (List UInt8)) (j : Nat) : Lib.keeps d j = true ↔ j = 0 ∨ d[j]! ≠ d[j - 1]! := by
  unfold Lib.keeps
  simp
theorem compact_sorted (zs : List (List UInt8)) (h : zs.Pairwise (fun a b => leB a b = true)) : (Lib.compact zs).Pairwise (fun a b => leB a b = true) ∧ (Lib.compact zs).Nodup ∧ ∀ x, x ∈ Lib.compact zs ↔ x ∈ zs := by
  have key : ∀ m, m ≤ zs.length → (Lib.compactUpTo zs.toArray m).Pairwise (fun a b => leB a b = true) ∧ (Lib.compactUpTo zs.toArray m).Nodup ∧ (∀ x, x ∈ Lib.compactUpTo zs.toArray m ↔ x ∈ zs.take m) := by
    intro m
    induction m with
    | zero => intro _; simp [Lib.compactUpTo]
    | succ m ih =>
      intro hm
      obtain ⟨i1, i2, i3⟩ := ih (by omega)
      have hg : zs.toArray[m]! = zs[m]'(by omega) := by rw [getElem!_pos zs.toArray m (by simp; omega)]; simp
      have htk : zs.take (m + 1) = zs.take m ++ [zs[m]'(by omega)] := by rw [List.take_add_one, List.getElem?_eq_getElem (by omega)]; rfl
      rw [Lib.compactUpTo_succ, htk]
      by_cases hk : Lib.keeps zs.toArray m = true
      · rw [if_pos hk, hg]
        have hle : ∀ x ∈ Lib.compactUpTo zs.toArray m, leB x (zs[m]'(by omega)) = true := fun x hx => by
          obtain ⟨a, ha, e⟩ := List.getElem_of_mem ((i3 x).1 hx)
          rw [List.getElem_take] at e
          have ham : a < m := by rw [List.length_take] at ha; omega
          rw [← e]
          exact List.pairwise_iff_getElem.1 h a m (by omega) (by omega) ham
        have hne : ∀ x ∈ Lib.compactUpTo zs.toArray m, x ≠ zs[m]'(by omega) := fun x hx e => by
          obtain ⟨a, ha, ea⟩ := List.getElem_of_mem ((i3 x).1 hx)
          rw [List.getElem_take] at ea
          have ham : a < m := by rw [List.length_take] at ha; omega
          rcases (keeps_iff _ _).1 hk with h0 | h0
          · omega
          · apply h0
            have hg1 : zs.toArray[m - 1]! = zs[m - 1]'(by omega) := by rw [getElem!_pos zs.toArray (m - 1) (by simp; omega)]; simp
            rw [hg, hg1]
            have k1 : leB (zs[m - 1]'(by omega)) (zs[m]'(by omega)) = true := List.pairwise_iff_getElem.1 h (m - 1) m (by omega) (by omega) (by omega)
            have k2 : leB (zs[m]'(by omega)) (zs[m - 1]'(by omega)) = true := by
              rw [← e, ← ea]
              by_cases e1 : a = m - 1
              · subst e1; simp [leB, List.le_refl]
              · exact List.pairwise_iff_getElem.1 h a (m - 1) (by omega) (by omega) (by omega)
            simp only [leB, decide_eq_true_eq] at k1 k2
            exact (List.le_antisymm k1 k2).symm
        refine ⟨?_, ?_, fun x => by rw [List.mem_append, List.mem_append, i3 x]⟩
        · rw [List.pairwise_append]
          exact ⟨i1, by simp, fun a ha b hb => by simp at hb; subst hb; exact hle a ha⟩
        · rw [List.nodup_append]
          exact ⟨i2, by simp, fun a ha b hb => by simp at hb; subst hb; exact hne a ha⟩
      · rw [if_neg hk, List.append_nil]
        refine ⟨i1, i2, fun x => ?_⟩
        rw [i3 x]
        constructor
        · intro hx; exact List.mem_append_left _ hx
        · intro hx
          rcases List.mem_append.1 hx with hx | hx
          · exact hx
          · simp only [List.mem_singleton] at hx
            have hk' : ¬ (m = 0 ∨ zs.toArray[m]! ≠ zs.toArray[m - 1]!) := fun h => hk ((keeps_iff _ _).2 h)
            have hm0 : m ≠ 0 := fun e => hk' (.inl e)
            have hee : zs.toArray[m]! = zs.toArray[m - 1]! := by
              by_cases e : zs.toArray[m]! = zs.toArray[m - 1]!
              · exact e
              · exact absurd (.inr e) hk'
            have hg1 : zs.toArray[m - 1]! = zs[m - 1]'(by omega) := by rw [getElem!_pos zs.toArray (m - 1) (by simp; omega)]; simp
            rw [hg, hg1] at hee
            rw [hx, hee]
            rw [List.mem_iff_getElem]
            exact ⟨m - 1, by rw [List.length_take]; omega, by rw [List.getElem_take]⟩
  have := key zs.length (Nat.le_refl _)
  rw [List.take_length] at this
  exact this
/-! ### rows of strings of the call's own -/
theorem own_holds {w : World} {B g n cap : Nat} {zs : List (List UInt8)} (h : w.ownsRow B 9 1 (.slice (some ⟨g, 0, none⟩) n cap) n (zs.map encStr)) (hn : zs.length = n) : Holds encStr w g 0 zs.toArray ∧ ∃ cur, w.heap[g]? = some (.cells cur 9 (0, 0)) ∧ cur.size = cap * 1 ∧ n ≤ cap ∧ cap ≤ maxLen ∧ B ≤ g := by
  rcases h.2 with ⟨e, _⟩ | ⟨g', cap', cur, e, h1, h2, h3, h4, h5, h6⟩
  · cases e
  · injection e with e1 e2 e3
    injection e1 with e1
    injection e1 with e1
    subst e1 e3
    refine ⟨fun j hj => ⟨?_, frozen_of h2 _⟩, cur, h2, h5, h3, h4, h1⟩
    have hj' : j < zs.length := by simpa using hj
    rw [cell_of h2, Nat.zero_add]
    have : (zs.map encStr)[j]? = some (encStr zs[j]) := by simp [hj']
    rw [← h6, List.getElem?_take, if_pos (by omega)] at this
    rw [getElem!_pos zs.toArray j hj]
    simpa using this
theorem put_own {w w' : World} {B g cap n : Nat} {cur : Array Value} {ys : List (List UInt8)} (hb : w.heap[g]? = some (.cells cur 9 (0, 0))) (hs : cur.size = cap * 1) (hn : n ≤ cap) (hm : cap ≤ maxLen) (hB : B ≤ g) (d : List (List UInt8)) (hd : d.length ≤ cap) (hw : w'.heap[g]? = (putRow encStr w g 0 d.toArray).heap[g]?) (hy : d.take n = ys) (hyn : ys.length = n) :
    w'.ownsRow B 9 1 (.slice (some ⟨g, 0, none⟩) n cap) n (ys.map encStr) := by
  have h1 : w'.heap[g]? = some (.cells (putCells encStr 0 d.toArray cur) 9 (0, 0)) := hw.trans (mapBlock_same hb)
  refine ⟨by simp [hyn], .inr ⟨g, cap, _, rfl, hB, h1, hn, hm, by unfold putCells; simpa using hs, ?_⟩⟩
  apply List.ext_getElem?
  intro j
  rw [List.getElem?_take]
  by_cases hj : j < n
  · rw [if_pos (by omega)]
    have hjd : j < d.length := by
      have : (d.take n).length = n := by rw [hy]; exact hyn
      rw [List.length_take] at this
      omega
    have hyj : ys[j]? = some d[j] := by rw [← hy, List.getElem?_take, if_pos hj, List.getElem?_eq_getElem hjd]
    rw [Array.getElem?_toList]
    unfold putCells
    have hjc : j < cur.size := by omega
    simp only [Array.getElem?_mapIdx, Array.getElem?_eq_getElem hjc, Option.map_some]
    rw [if_pos ⟨by omega, by simp; omega⟩, Nat.sub_zero, getElem!_pos d.toArray j (by simpa using hjd)]
    simp [hyj]
  · rw [if_neg (by omega), List.getElem?_eq_none (by simp; omega)]
theorem put_fr {w w' : World} {g : Nat} {cur : Array Value} {d : Array (List UInt8)} (hb : w.heap[g]? = some (.cells cur 9 (0, 0))) (q : Nat) (os : Array Obj) (hw : w' = grow (putRow encStr (Sort.ahead w q) g 0 d) os) : Fr (fun k => some g = some k) w w' := by
  subst hw
  have hsz : (putRow encStr (Sort.ahead w q) g 0 d).heap.size = w.heap.size := by unfold putRow mapBlock; simp [Sort.ahead]
  have hge : ∀ b, b < w.heap.size → (grow (putRow encStr (Sort.ahead w q) g 0 d) os).heap[b]? = (putRow encStr (Sort.ahead w q) g 0 d).heap[b]? := fun b hb => by
    show ((putRow encStr (Sort.ahead w q) g 0 d).heap ++ os)[b]? = _
    rw [Array.getElem?_append_left (by omega)]
  refine ⟨rfl, rfl, rfl, ?_, fun b hb hne => (hge b hb).trans (mapBlock_other (w := Sort.ahead w q) (fun e => hne (by rw [e]))), fun b c T fr hb' => ?_⟩
  · show w.heap.size ≤ ((putRow encStr (Sort.ahead w q) g 0 d).heap ++ os).size
    rw [Array.size_append, hsz]; omega
  · by_cases e : b = g
    · subst e
      rw [hb] at hb'
      simp only [Option.some.injEq, Obj.cells.injEq] at hb'
      obtain ⟨rfl, rfl, rfl⟩ := hb'
      exact ⟨_, (hge b (heap_lt hb)).trans (mapBlock_same (w := Sort.ahead w q) hb), by unfold putCells; simp⟩
    · exact ⟨c, (hge b (heap_lt hb')).trans ((mapBlock_other (w := Sort.ahead w q) e).trans hb'), rfl⟩
theorem sort15 (B n : Nat) (v : Value) (zs : List (List UInt8)) (w : World) (hO : w.ownsRow B 9 1 v n (zs.map encStr)) (hn : zs.length = n) (hl : n ≤ 1000000) : Calls Ybaz.prog 15 #[v] w fun e w' => e = .returned (.tuple #[]) ∧ w'.ownsRow B 9 1 v n ((zs.mergeSort leB).map encStr) ∧ Fr (fun k => v.ownBlock = some k) w w' := by
  obtain ⟨a, c, rfl⟩ := own_slice' hO
  rcases hO.2 with ⟨e, h0⟩ | ⟨g, cap, cur, e, _⟩
  · injection e with e1 e2 e3
    subst e1 e3 h0
    have hz : zs = [] := List.length_eq_zero_iff.1 hn
    subst hz
    refine (Ybaz.slices_Sort_string_none none 0 w).mono ?_
    rintro e w' ⟨rfl, rfl⟩
    exact ⟨rfl, by simpa using hO, Fr.refl _ _⟩
  · injection e with e1 e2 e3
    subst e1 e3
    obtain ⟨hH, cur2, hb, hs, h3, h4, h5⟩ := own_holds hO hn
    have H := Ybaz.slices_Sort_string g 0 c zs w hH (heap_lt hb) (by omega)
    rw [hn] at H
    refine H.mono ?_
    rintro e w' ⟨rfl, q, os, hw⟩
    refine ⟨rfl, put_own (w := Sort.ahead w q) hb hs h3 h4 h5 (zs.mergeSort leB) (by rw [List.length_mergeSort]; omega) ?_ (List.take_of_length_le (by rw [List.length_mergeSort]; omega)) (by rw [List.length_mergeSort]; exact hn), put_fr hb q os hw⟩
    rw [hw]
    show ((putRow encStr (Sort.ahead w q) g 0 (zs.mergeSort leB).toArray).heap ++ os)[g]? = _
    rw [Array.getElem?_append_left (by unfold putRow mapBlock; simp [Sort.ahead]; exact heap_lt hb)]
theorem compact16 (B n : Nat) (v : Value) (zs : List (List UInt8)) (w : World) (hO : w.ownsRow B 9 1 v n (zs.map encStr)) (hn : zs.length = n) (hl : n ≤ 1000000) : Calls Ybaz.prog 16 #[v] w fun e w' => ∃ v', e = .returned v' ∧ w'.ownsRow B 9 1 v' (Lib.compact zs).length ((Lib.compact zs).map encStr) ∧ v'.ownBlock = v.ownBlock ∧ Fr (fun k => v.ownBlock = some k) w w' := by
  obtain ⟨a, c, rfl⟩ := own_slice' hO
  have hcl := Lib.compact_length_le zs
  rcases hO.2 with ⟨e, h0⟩ | ⟨g, cap, cur, e, _⟩
  · injection e with e1 e2 e3
    subst e1 e3 h0
    have hz : zs = [] := List.length_eq_zero_iff.1 hn
    subst hz
    refine (Ybaz.slices_Compact_string_empty none 0 w).mono ?_
    rintro e w' ⟨rfl, rfl⟩
    exact ⟨_, rfl, by simpa [Lib.compact, Lib.compactUpTo] using hO, rfl, Fr.refl _ _⟩
  · injection e with e1 e2 e3
    subst e1 e3
    obtain ⟨hH, cur2, hb, hs, h3, h4, h5⟩ := own_holds hO hn
    have H := Ybaz.slices_Compact_string g 0 c zs w hH (by omega) (by omega)
    rw [hn] at H
    refine H.mono ?_
    rintro e w' ⟨rfl, q, hw⟩
    refine ⟨_, rfl, put_own (w := Sort.ahead w q) hb hs (by omega) h4 h5 (Lib.compact zs ++ List.replicate (n - (Lib.compact zs).length) []) (by simp; omega) (by rw [hw]) (by rw [List.take_append_of_le_length (Nat.le_refl _), List.take_length]) rfl, rfl, put_fr hb q #[] (by rw [hw, grow_empty])⟩
end Go.Proofs.YbulkchuuGreatDoor
