import Derived.Test.YbulkchuuGreatDoorN2
import Derived.Shelf.SlIter.Collect
namespace Go.Proofs.YbulkchuuGreatDoor
open Go.RowKit Go.Maps Go.Sort Go.Shelf
set_option linter.unusedVariables false
set_option linter.unusedSimpArgs false
set_option maxRecDepth 100000

/-- the iterator of slices.Values over the nil slice: nothing comes -/
theorem values87 (l Bm : Nat) (W : World) (hm : W.cell? ⟨Bm, 0, none⟩ = some (.slice none 0 0)) : Calls Ybaz.prog 87 #[.func (.yield l) #[] #[], .pointer (some ⟨Bm, 0, none⟩)] W fun e W' => (∃ v, e = .returned v) ∧ W' = W := by
  go_enter Ybaz.func87, Ybaz.ntmps87
  go_wp2
  go_loopw [7] (fun vk wr => vk = .int .i64 0 ∧ wr = W) (fun _ _ => 0)
  case atStart => exact ⟨rfl, rfl⟩
  case round =>
    obtain ⟨rfl, rfl⟩ := hrel
    go_wp2
    go_end0
    exact ⟨⟨_, rfl⟩, rfl⟩
theorem values40 (w : World) : Calls Ybaz.prog 40 #[.slice none 0 0] w fun e w' => e = .returned (.func (.func 87) #[] #[.pointer (some ⟨w.heap.size, 0, none⟩)]) ∧ w' = w.alloc (.cells #[.slice none 0 0] 23) := by
  go_enter Ybaz.func40, Ybaz.ntmps40
  go_wp2
  go_ret
  exact ⟨rfl, rfl⟩
set_option maxHeartbeats 4000000 in
theorem appendSeq137 (Bm : Nat) (w : World) (hm : w.cell? ⟨Bm, 0, none⟩ = some (.slice none 0 0)) :
    Calls Ybaz.prog 137 #[.slice none 0 0, .func (.func 87) #[] #[.pointer (some ⟨Bm, 0, none⟩)]] w fun e w' => e = .returned (.slice none 0 0) ∧ Below w.heap.size w w' := by
  refine (callsIn_wide (n := 5)).1 ?_
  refine callsIn_of_wp_marks Ybaz.func137 rfl trivial ?_ rfl
  simp only [Ybaz.ntmps137, List.size_toArray, List.length_cons, List.length_nil, Nat.reduceAdd, Nat.reduceSub, Array.replicate_succ, Array.replicate_zero, List.push_toArray, List.append_toArray, List.nil_append, List.cons_append]
  gi_wp2
  refine wpIn_rangeFunc ?_
  intro fn hfn
  rw [show Fence.wide.round = none from rfl]
  generalize hbod : (Code.block 1 _) = bod
  generalize hasg : (Code.region 2 _ false) = asg
  obtain ⟨W0, hW0⟩ : ∃ W0, w.alloc (.cells #[.slice none 0 0] 23) = W0 := ⟨_, rfl⟩
  have hs0 : W0.heap.size = w.heap.size + 1 := by rw [← hW0]; simp
  have hv0 : W0.heap[w.heap.size]? = some (.cells #[.slice none 0 0] 23 (0, 0)) := by rw [← hW0]; exact World.alloc_heap_new w _
  have hb0 : RowKit.Below w.heap.size w W0 := by rw [← hW0]; exact (RowKit.Below.refl _ w).alloc (Nat.le_refl _) _
  rw [hW0]
  obtain ⟨sv, hsv⟩ : ∃ sv, Value.func (.func 87) #[] #[.pointer (some ⟨Bm, 0, none⟩)] = sv := ⟨_, rfl⟩
  obtain ⟨R, hR⟩ : ∃ R : Loop, R = { state := .ready, pending := none, fn, tmps := #[.slice none 0 0, sv, .pointer (some ⟨w.heap.size, 0, none⟩), undef, .slice none 0 0, undef, sv, undef, undef, undef, undef, undef, undef], params := #[7], assign := asg, body := bod, defers := W0.heap.size } := ⟨_, rfl⟩
  obtain ⟨W1, hW1⟩ : ∃ W1, (W0.alloc (.deferred (some []))).alloc (.loop R) = W1 := ⟨_, rfl⟩
  have hold : ∀ k, k < W0.heap.size → W1.heap[k]? = W0.heap[k]? := fun k hk => by
    rw [← hW1]; exact (Below.heap_alloc _ _ k (by simp; omega)).trans (Below.heap_alloc _ _ k hk)
  have hb1 : RowKit.Below w.heap.size w W1 := by rw [← hW1]; exact (hb0.alloc hb0.size _).alloc (by have := hb0.size; simp; omega) _
  have hL : W1.heap[W0.heap.size + 1]? = some (.loop R) := by
    rw [← hW1]; have := World.alloc_heap_new (W0.alloc (.deferred (some []))) (.loop R); rwa [World.size_alloc] at this
  have hK : W1.heap[W0.heap.size]? = some (.deferred (some [])) := by rw [← hW1]; exact (Below.heap_alloc _ _ _ (by simp)).trans (World.alloc_heap_new W0 _)
  have hBm := World.block_lt_of_cell? w _ hm
  have hm1 : W1.cell? ⟨Bm, 0, none⟩ = some (.slice none 0 0) := (hb1.cell (p := ⟨Bm, 0, none⟩) hBm).trans hm
  have hv1 : W1.heap[w.heap.size]? = some (.cells #[.slice none 0 0] 23 (0, 0)) := (hold _ (by omega)).trans hv0
  refine ⟨W0.heap.size + 1, [{ target := .collected W0.heap.size, args := #[] }], W1, { target := .fn (.func 87) #[.pointer (some ⟨Bm, 0, none⟩)], args := #[.func (.yield (W0.heap.size + 1)) #[] #[]] }, W1, 87, #[.func (.yield (W0.heap.size + 1)) #[] #[], .pointer (some ⟨Bm, 0, none⟩)], W1, ?_, ?_, ?_, ?_, fun _ => by decide, ?_⟩
  · rw [← hW1, hR, ← hsv]; exact run_enterLoop_outer _ _ _ _ _
  · simp [resolve, go_sem]
  · intro f' hf'; trivial
  · simp [invoke, go_sem, enters_of Ybaz.func87 (by kernel_rfl) rfl]
  · refine (callsIn_wide.2 (values87 (W0.heap.size + 1) Bm W1 hm1)).mono ?_
    rintro e W2 ⟨⟨v0, rfl⟩, rfl⟩
    have hend := run_endLoop (P := Ybaz.prog) hL (by rw [hR]; simp)
    obtain ⟨W3, hW3⟩ : ∃ W3, W2.putObj (W0.heap.size + 1) (.loop { R with state := .exhausted }) = W3 := ⟨_, rfl⟩
    rw [hW3] at hend
    have hpend : R.pending = none := by rw [hR]
    rw [hpend] at hend
    have hg3 : W2.grownBy W3 (some (W0.heap.size + 1)) := by rw [← hW3]; exact grownBy_putObj_a _ _ _
    have hv3 : W3.heap[w.heap.size]? = some (.cells #[.slice none 0 0] 23 (0, 0)) := by rw [← hW3]; exact (World.putObj_heap_other (by omega)).trans hv1
    have hK3 : W3.heap[W0.heap.size]? = some (.deferred (some [])) := by rw [← hW3]; exact (World.putObj_heap_other (by omega)).trans hK
    have hb3 : RowKit.Below w.heap.size w W3 := hb1.grown hg3 hb1.size (fun k e => by cases e; omega)
    obtain ⟨hc3, hf3⟩ := cell_of_box_a hv3
    clear hW3 hR
    refine ⟨none, W3, hend, ?_⟩
    gi_wp2
    rw [hs0] at hK3
    refine ⟨by simp, .inl ⟨_, _, rfl, run_takeDeferred hK3, ?_⟩⟩
    exact ⟨_, results_tmp rfl _ _ _, rfl, hb3.grown (grownBy_putObj_a _ _ _) hb3.size (fun k e => by cases e; omega)⟩
theorem collect85 (Bm : Nat) (w : World) (hm : w.cell? ⟨Bm, 0, none⟩ = some (.slice none 0 0)) :
    Calls Ybaz.prog 85 #[.func (.func 87) #[] #[.pointer (some ⟨Bm, 0, none⟩)]] w fun e w' => e = .returned (.slice none 0 0) ∧ RowKit.Below w.heap.size w w' := by
  have H := hid (appendSeq137 Bm w hm)
  go_enter Ybaz.func85, Ybaz.ntmps85
  go_wp2_with (go_at_call 137; refine H.out.mono ?_; rintro e w2 ⟨rfl, hb⟩; have Hb := hid hb; clear hb)
  go_ret
  exact ⟨rfl, Hb.out⟩
theorem sorted39 (Bm : Nat) (w : World) (hm : w.cell? ⟨Bm, 0, none⟩ = some (.slice none 0 0)) :
    Calls Ybaz.prog 39 #[.func (.func 87) #[] #[.pointer (some ⟨Bm, 0, none⟩)]] w fun e w' => e = .returned (.slice none 0 0) ∧ RowKit.Below w.heap.size w w' := by
  have H := hid (collect85 Bm w hm)
  go_enter Ybaz.func39, Ybaz.ntmps39
  go_wp2_with (first | (go_at_call 85; refine H.out.mono ?_; rintro e w2 ⟨rfl, hb⟩; have Hb := hid hb; clear hb) | (go_at_call 86; refine (Ybaz.slices_Sort_int_none _ _ _).mono ?_; rintro e w3 ⟨rfl, rfl⟩))
  go_ret
  exact ⟨rfl, Hb.out⟩
/-- the closure of DeleteFunc: the group isn't asked for -/
def AskAt (ab an : Nat) (asked : Nat → Bool) (w : World) : Prop := ∃ cur, w.heap[ab]? = some (.cells cur 4 (0, 0)) ∧ cur.size = an ∧ ∀ g, g < an → cur[g]? = some (.bool (asked g))
theorem ask35 (sb ab an ac : Nat) (asked : Nat → Bool) (g : Nat) (w : World) (hs : w.cell? ⟨sb, 0, none⟩ = some (.slice (some ⟨ab, 0, none⟩) an ac)) (ha : AskAt ab an asked w) (hg : g < an) (hn : an ≤ 255) :
    Calls Ybaz.prog 35 #[.int .i32 g, .pointer (some ⟨sb, 0, none⟩)] w fun e w' => e = .returned (.bool (!asked g)) ∧ w' = w := by
  obtain ⟨cur, h1, h2, h3⟩ := ha
  have c1 : w.cell? ⟨ab, g, none⟩ = some (.bool (asked g)) := by rw [cell_of h1]; exact h3 g hg
  have hgi : (g : Int) < (an : Int) := by omega
  clear h1 h2 h3
  go_enter Ybaz.func35, Ybaz.ntmps35
  go_wp2
  go_ret
  exact ⟨rfl, rfl⟩
theorem AskAt.move {ab an : Nat} {asked : Nat → Bool} {w w' : World} (h : AskAt ab an asked w) (hk : w'.heap[ab]? = w.heap[ab]?) : AskAt ab an asked w' := by
  obtain ⟨cur, h1, h2, h3⟩ := h
  exact ⟨cur, hk.trans h1, h2, h3⟩
def encG (k : Nat) (x : Fin (k + 1)) : Value := .int .i32 (x.val : Int)
theorem mapBlock_other {w : World} {blk k : Nat} {f : Array Value → Array Value} (h : k ≠ blk) : (mapBlock w blk f).heap[k]? = w.heap[k]? := by
  unfold mapBlock
  simp only [Array.getElem?_modify]
  rw [if_neg (fun e => h e.symm)]
theorem mapBlock_same {w : World} {blk : Nat} {f : Array Value → Array Value} {cur : Array Value} {T : TypeId} (h : w.heap[blk]? = some (.cells cur T (0, 0))) : (mapBlock w blk f).heap[blk]? = some (.cells (f cur) T (0, 0)) := by
  unfold mapBlock
  simp only [Array.getElem?_modify, h]
  simp [onCells]
theorem zero21 (w : World) : (zeroValue 21).run Ybaz.prog w = .ok (.int .i32 0) w := Ybaz.zeroValue21 w
def FilterPost (Bd : Nat) (gr : Value) (gl : List Int) (asked : Nat → Bool) (w : World) (e : Ending) (w' : World) : Prop := ∃ v, e = .returned v ∧ w'.ownsRow Bd 21 1 v (gl.filter (fun x => asked x.toNat)).length (I32s (gl.filter (fun x => asked x.toNat))) ∧ v.ownBlock = gr.ownBlock ∧ (∃ xs, w'.ownsRow Bd 21 1 gr gl.length xs) ∧ Fr (fun k => gr.ownBlock = some k) w w'
set_option maxHeartbeats 1000000 in
theorem delete34 (Bd sb ab an ac : Nat) (asked : Nat → Bool) (gl : List Int) (gr : Value) (w : World) (hO : w.ownsRow Bd 21 1 gr gl.length (I32s gl)) (hG : ∀ x ∈ gl, 0 ≤ x ∧ x < (an : Int)) (hs : w.heap[sb]? = some (.cells #[.slice (some ⟨ab, 0, none⟩) an ac] 84 (0, 0))) (ha : AskAt ab an asked w) (hn : an ≤ 255) (hl : gl.length ≤ 1000) :
    Calls Ybaz.prog 34 #[gr, .func (.func 35) #[] #[.pointer (some ⟨sb, 0, none⟩)]] w (FilterPost Bd gr gl asked w) := by
  obtain ⟨ga, gc, rfl⟩ := own_slice' hO
  by_cases h0 : gl.length = 0
  · have hgl : gl = [] := List.length_eq_zero_iff.1 h0
    subst hgl
    have HO := hid hO
    have H := hid (Ybaz.slices_IndexFunc_empty_f79 (α := Nat) ga gc (.func (.func 35) #[] #[.pointer (some ⟨sb, 0, none⟩)]) w)
    clear hO hs ha
    go_enter Ybaz.func34, Ybaz.ntmps34
    go_wp2_with (go_at_call 79; refine H.out.mono ?_; rintro e w2 ⟨rfl, rfl⟩)
    go_ret
    exact ⟨_, rfl, HO.out, rfl, ⟨_, HO.out⟩, Fr.refl _ _⟩
  · obtain ⟨g, hga, cur, hB, hblk, hcap, hmax, hcs, htk⟩ : ∃ g, ga = some ⟨g, 0, none⟩ ∧ ∃ cur, Bd ≤ g ∧ w.heap[g]? = some (.cells cur 21 (0, 0)) ∧ gl.length ≤ gc ∧ gc ≤ maxLen ∧ cur.size = gc * 1 ∧ cur.toList.take (gl.length * 1) = I32s gl := by
      rcases hO.2 with ⟨_, h⟩ | ⟨g, cap, cur, e, h1, h2, h3, h4, h5, h6⟩
      · exact absurd h h0
      · injection e with e1 e2 e3
        subst e3
        exact ⟨g, e1, cur, h1, h2, h3, h4, h5, h6⟩
    subst hga
    have hx0 : gl[0]'(by omega) ∈ gl := List.getElem_mem _
    have hx1 := hG _ hx0
    obtain ⟨k, rfl⟩ : ∃ k, an = k + 1 := ⟨an - 1, by omega⟩
    let F : Int → Fin (k + 1) := fun x => ⟨x.toNat % (k + 1), Nat.mod_lt _ (by omega)⟩
    have hF : ∀ x ∈ gl, encG k (F x) = .int .i32 x ∧ (F x).val = x.toNat := fun x hx => by
      obtain ⟨h1, h2⟩ := hG x hx
      have h3 : x.toNat % (k + 1) = x.toNat := Nat.mod_eq_of_lt (by omega)
      refine ⟨?_, h3⟩
      show Value.int .i32 ((x.toNat % (k + 1) : Nat) : Int) = _
      rw [h3]
      congr 1
      omega
    have hd : (gl.map F).toArray.size = gl.length := by simp
    have hsg : sb ≠ g := fun e => by rw [e, hblk] at hs; simp at hs
    have hag : ab ≠ g := fun e => by obtain ⟨c, h1, _⟩ := ha; rw [e, hblk] at h1; simp at h1
    have hfn : ∀ (W : World) (x : Fin (k + 1)), W.heap[sb]? = w.heap[sb]? → W.heap[ab]? = w.heap[ab]? → FnGives Ybaz.prog 35 #[.pointer (some ⟨sb, 0, none⟩)] #[encG k x] (.bool (!asked x.val)) W := fun W x e1 e2 => by
      refine (ask35 sb ab (k + 1) ac asked x.val W (by rw [cell_of (e1.trans hs)]; rfl) (ha.move e2) x.isLt hn).mono ?_
      rintro e w' ⟨rfl, rfl⟩
      exact ⟨rfl, 0, rfl⟩
    have hlsb := heap_lt hs
    have hlab : ab < w.heap.size := by obtain ⟨c, h1, _⟩ := ha; exact heap_lt h1
    have hlg := heap_lt hblk
    have hcell : ∀ j, j < gl.length → cur[j]? = (I32s gl)[j]? := fun j hj => by
      rw [← htk, List.getElem?_take, if_pos (by omega)]; simp
    obtain ⟨d, hdd⟩ : ∃ d, (gl.map F).toArray = d := ⟨_, rfl⟩
    rw [hdd] at hd
    have hdget : ∀ j, j < gl.length → ∃ x, gl[j]? = some x ∧ x ∈ gl ∧ d[j]! = F x := fun j hj => by
      refine ⟨gl[j], List.getElem?_eq_getElem hj, List.getElem_mem _, ?_⟩
      rw [getElem!_pos d j (by omega)]
      simp [← hdd]
    have h1 : PredAt Ybaz.prog 35 #[.pointer (some ⟨sb, 0, none⟩)] (encG k) (fun x => !asked x.val) w := fun W x hW => hfn W x (hW.block sb hlsb) (hW.block ab hlab)
    have hoth : ∀ (n : Nat) (os : Array Obj) (dk : Array (Fin (k + 1))) (b : Nat), b ≠ g → b < w.heap.size → (sortWorld (encG k) w g 0 n dk os).heap[b]? = w.heap[b]? := fun n os dk b hb hl => by
      unfold sortWorld putRow
      show ((mapBlock (Sort.ahead w n) g (putCells (encG k) 0 dk)).heap ++ os)[b]? = _
      rw [Array.getElem?_append_left (by unfold mapBlock; simp [Sort.ahead]; omega), mapBlock_other hb]
      rfl
    have h2 : PredOver Ybaz.prog 35 #[.pointer (some ⟨sb, 0, none⟩)] (encG k) (fun x => !asked x.val) g 0 d.size w := fun n os dk x _ => hfn _ x (hoth n os dk sb hsg hlsb) (hoth n os dk ab hag hlab)
    have h3 : Holds (encG k) w g 0 d := fun j hj => by
      obtain ⟨x, e1, e2, e3⟩ := hdget j (by omega)
      refine ⟨?_, frozen_of hblk _⟩
      rw [cell_of hblk, Nat.zero_add, hcell j (by omega), e3, (hF x e2).1]
      simp [e1]
    have H := Ybaz.slices_DeleteFunc_f34 (encG k) (fun x => rfl) (fun x => !asked x.val) 35 #[.pointer (some ⟨sb, 0, none⟩)] (enters_of Ybaz.func35 (by kernel_rfl) rfl) ⟨0, by omega⟩ zero21 g 0 gc d w h1 h2 h3 (by omega) (by omega)
    rw [hd] at H
    refine H.mono ?_
    clear H
    rintro e w' ⟨rfl, q, rfl⟩
    obtain ⟨fl, hfl⟩ : ∃ fl, gl.filter (fun x => asked x.toNat) = fl := ⟨_, rfl⟩
    have hfd : (d.toList.filter fun x => !(!asked x.val)) = fl.map F := by
      rw [← hdd, ← hfl, List.filter_map]
      congr 1
      refine List.filter_congr fun x hx => ?_
      simp [(hF x hx).2]
    rw [hfd, List.length_map]
    have hflm : ∀ x ∈ fl, x ∈ gl := fun x hx => by rw [← hfl] at hx; exact (List.mem_filter.1 hx).1
    have hfll : fl.length ≤ gl.length := by rw [← hfl]; exact List.length_filter_le _ _
    obtain ⟨D, hD⟩ : ∃ D : Array (Fin (k + 1)), (fl.map F ++ List.replicate (gl.length - fl.length) (⟨0, by omega⟩ : Fin (k + 1))).toArray = D := ⟨_, rfl⟩
    rw [hD]
    have hDs : D.size = gl.length := by rw [← hD]; simp; omega
    have hDg : ∀ j (hj : j < fl.length), D[j]! = F fl[j] := fun j hj => by
      rw [getElem!_pos D j (by omega)]
      simp [← hD, List.getElem_append, hj]
    have hblk' : (putRow (encG k) (Sort.ahead w q) g 0 D).heap[g]? = some (.cells (putCells (encG k) 0 D cur) 21 (0, 0)) := mapBlock_same hblk
    have hcs' : (putCells (encG k) 0 D cur).size = gc * 1 := by unfold putCells; simpa using hcs
    have hc' : ∀ j, j < fl.length → (putCells (encG k) 0 D cur)[j]? = (I32s fl)[j]? := fun j hj => by
      have hjc : j < cur.size := by omega
      unfold putCells
      simp only [Array.getElem?_mapIdx, Array.getElem?_eq_getElem hjc, Option.map_some]
      rw [if_pos ⟨by omega, by omega⟩, Nat.sub_zero, hDg j hj, (hF _ (hflm _ (List.getElem_mem _))).1]
      simp [hj]
    unfold FilterPost
    rw [hfl]
    refine ⟨_, rfl, ⟨by simp [I32s], .inr ⟨g, gc, _, rfl, hB, hblk', by omega, hmax, hcs', ?_⟩⟩, rfl, ⟨_, ⟨?_, .inr ⟨g, gc, _, rfl, hB, hblk', hcap, hmax, hcs', rfl⟩⟩⟩, ?_⟩
    · apply List.ext_getElem?
      intro j
      rw [List.getElem?_take]
      by_cases hj : j < fl.length
      · rw [if_pos (by omega), Array.getElem?_toList, hc' j hj]
      · rw [if_neg (by omega), List.getElem?_eq_none (by simp [I32s]; omega)]
    · rw [List.length_take]; have : (putCells (encG k) 0 D cur).toList.length = gc * 1 := by rw [← hcs']; exact Array.length_toList
      omega
    · refine ⟨rfl, rfl, rfl, ?_, fun b hb hne => mapBlock_other (w := Sort.ahead w q) (fun e => hne (by rw [e]; rfl)), fun b c T fr hb => ?_⟩
      · show w.heap.size ≤ (mapBlock (Sort.ahead w q) g _).heap.size
        unfold mapBlock; simp [Sort.ahead]
      · by_cases e : b = g
        · subst e
          rw [hblk] at hb
          simp only [Option.some.injEq, Obj.cells.injEq] at hb
          obtain ⟨rfl, rfl, rfl⟩ := hb
          exact ⟨_, hblk', by rw [hcs', hcs]⟩
        · exact ⟨c, (mapBlock_other (w := Sort.ahead w q) e).trans hb, rfl⟩
theorem clone36 (Bd : Nat) (v : Value) (fl : List Int) (w : World) (hO : w.ownsRow Bd 21 1 v fl.length (I32s fl)) (hl : fl.length ≤ 1000) : Calls Ybaz.prog 36 #[v] w fun e w' => ∃ v', e = .returned v' ∧ w'.ownsRow w.heap.size 21 1 v' fl.length (I32s fl) ∧ RowKit.Below w.heap.size w w' := by
  obtain ⟨i21, hi, hz0, hz1, hz2⟩ := info_parts info21
  rcases hO.2 with ⟨rfl, h0⟩ | ⟨g, cap, cur, rfl, h1, h2, h3, h4, h5, h6⟩
  · refine (Ybaz.slices_Clone_nil_f36 0 0 w).mono ?_
    rintro e w' ⟨rfl, rfl⟩
    have : fl = [] := List.length_eq_zero_iff.1 h0
    subst this
    exact ⟨_, rfl, World.ownsRow_nil _ _ _ _, RowKit.Below.refl _ _⟩
  · refine (Ybaz.slices_Clone_f36 i21 (.int .i32 0) 1 4 hi hz0 hz1 hz2 rfl (by decide) Ybaz.sizeOf21 g 0 fl.length cap (I32s fl) w (by simp [I32s]) (by unfold maxLen; omega) (by omega) (fun j u hj => ?_) (fun u hu => ?_)).mono ?_
    · rw [cell_of h2, Nat.zero_add]
      rw [← h6, List.getElem?_take] at hj
      split at hj
      · simpa using hj
      · cases hj
    · obtain ⟨x, _, rfl⟩ := List.mem_map.1 hu
      rfl
    · rintro e w' ⟨v', rfl, ho, _, hb⟩
      exact ⟨v', rfl, ho, hb⟩
end Go.Proofs.YbulkchuuGreatDoor
