import Derived.Test.YbulkchuuGreatDoorA
import Derived.Test.YbulkchuuGreatDoorShelf
import Derived.Maps.OwnSet
import Derived.Maps.OwnRows
import Derived.Laws.Rows
namespace Go.Proofs.YbulkchuuGreatDoor
open Go.RowKit Go.Maps
set_option linter.unusedVariables false
set_option linter.unusedSimpArgs false
set_option maxRecDepth 100000

/-- a tree that is nil has no rule -/
theorem each174 (fv : Value) (w : World) : Calls Ybaz.prog 174 #[.pointer none, fv] w fun e w' => e = .returned (.tuple #[]) ∧ w' = w := by
  go_enter Ybaz.func174, Ybaz.ntmps174
  go_wp2
  (try simp only [Exit.inBlock, Exit.then]); refine bodyPost_ret (results_none rfl _ _ _) rfl ?_
  exact ⟨rfl, rfl⟩

theorem law9 : Keyed Ybaz.prog 9 := string_keyed Ybaz.underlying9
theorem key9 (s : ByteArray) (hs : s.size ≤ maxLen) : keyOf Ybaz.prog 9 (.string s) = some (.string s.data.toList) := Go.WideMaps.keyOf_string_mk Ybaz.underlying9 hs
theorem look90 (s : ByteArray) (hs : s.size ≤ maxLen) (w : World) : (Instr.lookup 90 (.map none) (.string s) false).run Ybaz.prog w = .ok (.pointer none) w := by
  simpa using Maps.look_nil (w := w) false law9 Ybaz.underlying90 (z := .pointer none) (by kernel_rfl) (key9 s hs)
theorem look91 (s : ByteArray) (hs : s.size ≤ maxLen) (w : World) : (Instr.lookup 91 (.map none) (.string s) false).run Ybaz.prog w = .ok (.pointer none) w := by
  simpa using Maps.look_nil (w := w) false law9 Ybaz.underlying91 (z := .pointer none) (by kernel_rfl) (key9 s hs)

theorem eachRule129 (fb : Nat) (s : ByteArray) (fv : Value) (w : World) (hs : s.size ≤ maxLen) (h2 : w.cell? ⟨fb, 2, none⟩ = some (.map none)) (h3 : w.cell? ⟨fb, 3, none⟩ = some (.map none)) :
    Calls Ybaz.prog 129 #[.pointer (some ⟨fb, 0, none⟩), .string s, fv] w fun e w' => e = .returned (.tuple #[]) ∧ w' = w := by
  have l0 := look90 s hs; have l1 := look91 s hs
  go_enter Ybaz.func129, Ybaz.ntmps129
  go_wp2_with (go_at_call 174; refine (each174 _ _).mono ?_; rintro e w' ⟨rfl, rfl⟩)
  go_end0
  exact ⟨rfl, rfl⟩

/-- slices.SortFunc at nothing -/
theorem insertion211 (fv : Value) (w : World) : Calls Ybaz.prog 211 #[.slice none 0 0, .int .i64 0, .int .i64 0, fv] w fun e w' => e = .returned (.tuple #[]) ∧ w' = w := by
  go_enter Ybaz.func211, Ybaz.ntmps211
  go_wp2
  go_loopw [8] (fun vk wr => vk = .int .i64 1 ∧ wr = w) (fun _ _ => 0)
  case atStart => exact ⟨rfl, rfl⟩
  case round =>
    obtain ⟨rfl, rfl⟩ := hrel
    go_wp2
    go_end0
    exact ⟨rfl, rfl⟩
theorem pdq175 (fv : Value) (w : World) : Calls Ybaz.prog 175 #[.slice none 0 0, .int .i64 0, .int .i64 0, .int .i64 0, fv] w fun e w' => e = .returned (.tuple #[]) ∧ w' = w := by
  go_enter Ybaz.func175, Ybaz.ntmps175
  go_wp2
  go_loopw [1, 2, 3, 10, 11] (fun v1 v2 v3 v10 v11 wr => v1 = .int .i64 0 ∧ v2 = .int .i64 0 ∧ wr = w) (fun _ _ _ _ _ _ => 0)
  case atStart => exact ⟨rfl, rfl, rfl⟩
  case round =>
    obtain ⟨rfl, rfl, rfl⟩ := hrel
    go_wp2_with (go_at_call 211; refine (insertion211 _ _).mono ?_; rintro e w' ⟨rfl, rfl⟩)
    (try simp only [Exit.inBlock, Exit.then]); refine bodyPost_ret (results_none rfl _ _ _) rfl ?_
    exact ⟨rfl, rfl⟩
theorem sortFunc131 (w : World) : Calls Ybaz.prog 131 #[.slice none 0 0, .func (.func 132) #[] #[]] w fun e w' => e = .returned (.tuple #[]) ∧ w' = w := by
  have hLen : ∀ w, Calls Ybaz.prog 42 #[.int .u64 0] w fun e w' => e = .returned (.int .i64 0) ∧ w' = w := fun w => by
    have h := Ybaz.bits_Len 0 w (by omega) (by omega)
    have hb : Lib.bitLen (0 : Int).toNat = 0 := by decide
    rw [hb] at h
    exact h
  go_enter Ybaz.func131, Ybaz.ntmps131
  go_wp2_with (first | (go_at_call 42; refine (hLen _).mono ?_; rintro e w' ⟨rfl, rfl⟩) | (go_at_call 175; refine (pdq175 _ _).mono ?_; rintro e w' ⟨rfl, rfl⟩))
  go_end0
  exact ⟨rfl, rfl⟩

theorem equalFunc83 (fv : Value) (w : World) : Calls Ybaz.prog 83 #[.slice none 0 0, .slice none 0 0, fv] w fun e w' => e = .returned (.bool true) ∧ w' = w := by
  go_enter Ybaz.func83, Ybaz.ntmps83
  go_wp2
  go_loopw [17] (fun vk wr => vk = .int .i64 0 ∧ wr = w) (fun _ _ => 0)
  case atStart => exact ⟨rfl, rfl⟩
  case round =>
    obtain ⟨rfl, rfl⟩ := hrel
    go_wp2
    go_ret
    exact ⟨rfl, rfl⟩

set_option maxHeartbeats 1000000 in
theorem rulesByLine80 (fb sb : Nat) (s : ByteArray) (w : World) (hs : s.size ≤ maxLen) (hsb : w.cell? ⟨sb, 0, none⟩ = some (.string s)) (h2 : w.cell? ⟨fb, 2, none⟩ = some (.map none)) (h3 : w.cell? ⟨fb, 3, none⟩ = some (.map none)) :
    Calls Ybaz.prog 80 #[.pointer (some ⟨fb, 0, none⟩), .slice (some ⟨sb, 0, none⟩) 1 1] w fun e w' => e = .returned (.slice none 0 0) ∧ Below w.heap.size w w' := by
  have hlt2 := World.block_lt_of_cell? w _ h2
  have hltb := World.block_lt_of_cell? w _ hsb
  have hb1 := heap_alloc_new w (.cells #[.slice none 0 0] 72)
  have bel : Below w.heap.size w (w.alloc (.cells #[.slice none 0 0] 72)) := (Below.refl _ _).alloc (Nat.le_refl _) _
  have c2 := (bel.cell (p := ⟨fb, 2, none⟩) hlt2).trans h2
  have c3 := (bel.cell (p := ⟨fb, 3, none⟩) hlt2).trans h3
  have cs := (bel.cell (p := ⟨sb, 0, none⟩) hltb).trans hsb
  have cb : (w.alloc (.cells #[.slice none 0 0] 72)).cell? ⟨w.heap.size, 0, none⟩ = some (.slice none 0 0) := by rw [cell_of hb1]; rfl
  have hc := hid (fun fv => eachRule129 fb s fv _ hs c2 c3)
  have HB := hid bel
  clear h2 h3 hsb hb1 bel
  go_enter Ybaz.func80, Ybaz.ntmps80
  go_wp2
  generalize w.alloc (.cells #[.slice none 0 0] 72) = w1 at *
  go_loopw [10] (fun vk wr => ∃ k : Nat, k ≤ 1 ∧ vk = .int .i64 k ∧ wr = w1) (fun vk _ => 1 - (intOf vk).toNat)
  case atStart => exact ⟨0, by omega, rfl, rfl⟩
  case round =>
    obtain ⟨k, hk, rfl, rfl⟩ := hrel
    match k with
    | 0 =>
      go_wp2_with (go_at_call 129; refine (hc.out _).mono ?_; rintro e w' ⟨rfl, rfl⟩)
      go_roundw
      case rel => exact ⟨1, by omega, by go_num, by first | rfl | trivial⟩
      case measure => simp [intOf]
    | 1 =>
      go_wp2_with (go_at_call 131; refine (sortFunc131 _).mono ?_; rintro e w' ⟨rfl, rfl⟩)
      go_ret
      first | exact ⟨rfl, HB.out⟩ | exact ⟨trivial, HB.out⟩ | exact HB.out

theorem index64_0 (f0 f1 : Nat) (W : World) : (Instr.index 64 (.agg #[.pointer (some ⟨f0, 0, none⟩), .pointer (some ⟨f1, 0, none⟩)]) (.int .i64 0)).run Ybaz.prog W = .ok (.pointer (some ⟨f0, 0, none⟩)) W := by
  unfold Instr.index
  go_simp
theorem index64_1 (f0 f1 : Nat) (W : World) : (Instr.index 64 (.agg #[.pointer (some ⟨f0, 0, none⟩), .pointer (some ⟨f1, 0, none⟩)]) (.int .i64 1)).run Ybaz.prog W = .ok (.pointer (some ⟨f1, 0, none⟩)) W := by
  unfold Instr.index
  go_simp
set_option maxHeartbeats 2000000 in
/-- changeOf, where no file has a rule tree: nothing has changed -/
theorem changeOf37 (cb f0 f1 : Nat) (w : World) (s : ByteArray) (hs : s.size ≤ maxLen) (hc0 : w.cell? ⟨cb, 0, none⟩ = some (.pointer (some ⟨f0, 0, none⟩))) (hc1 : w.cell? ⟨cb, 1, none⟩ = some (.pointer (some ⟨f1, 0, none⟩)))
    (h02 : w.cell? ⟨f0, 2, none⟩ = some (.map none)) (h03 : w.cell? ⟨f0, 3, none⟩ = some (.map none)) (h12 : w.cell? ⟨f1, 2, none⟩ = some (.map none)) (h13 : w.cell? ⟨f1, 3, none⟩ = some (.map none)) :
    Calls Ybaz.prog 37 #[.pointer (some ⟨cb, 0, none⟩), .string s] w fun e w' => e = .returned (.agg #[.slice none 0 0, .bool false, .slice none 0 0, .slice none 0 0]) ∧ Below w.heap.size w w' := by
  have hlt0 := World.block_lt_of_cell? w _ h02
  have hlt1 := World.block_lt_of_cell? w _ h12
  have hltc := World.block_lt_of_cell? w _ hc0
  have HH := hid (And.intro (And.intro h02 h03) (And.intro h12 h13))
  clear h02 h03 h12 h13
  have belA : Below w.heap.size w ((w.alloc (.cells #[.slice none 0 0, .bool false, .slice none 0 0, .slice none 0 0] 75)).alloc (.cells #[.slice none 0 0, .bool false, .slice none 0 0, .slice none 0 0] 75)) := ((Below.refl _ _).alloc (Nat.le_refl _) _).alloc (by simp) _
  have hb4 : ((w.alloc (.cells #[.slice none 0 0, .bool false, .slice none 0 0, .slice none 0 0] 75)).alloc (.cells #[.slice none 0 0, .bool false, .slice none 0 0, .slice none 0 0] 75)).heap[w.heap.size]? = some (.cells #[.slice none 0 0, .bool false, .slice none 0 0, .slice none 0 0] 75 (0, 0)) := (Below.heap_alloc _ _ _ (by simp)).trans (heap_alloc_new _ _)
  have hb5 : ((w.alloc (.cells #[.slice none 0 0, .bool false, .slice none 0 0, .slice none 0 0] 75)).alloc (.cells #[.slice none 0 0, .bool false, .slice none 0 0, .slice none 0 0] 75)).heap[w.heap.size + 1]? = some (.cells #[.slice none 0 0, .bool false, .slice none 0 0, .slice none 0 0] 75 (0, 0)) := by
    have h := heap_alloc_new (w.alloc (.cells #[.slice none 0 0, .bool false, .slice none 0 0, .slice none 0 0] 75)) (.cells #[.slice none 0 0, .bool false, .slice none 0 0, .slice none 0 0] 75)
    simpa using h
  have hix0 := index64_0 f0 f1; have hix1 := index64_1 f0 f1
  have HBA := hid belA; have Hb4 := hid hb4; have Hb5 := hid hb5
  clear belA hb4 hb5
  go_enter Ybaz.func37, Ybaz.ntmps37
  go_wp2
  generalize (w.alloc (.cells #[.slice none 0 0, .bool false, .slice none 0 0, .slice none 0 0] 75)).alloc (.cells #[.slice none 0 0, .bool false, .slice none 0 0, .slice none 0 0] 75) = W0 at *
  go_loopw [16] (fun vk wr => ∃ k : Nat, k ≤ 2 ∧ vk = .int .i64 k ∧ Below W0.heap.size W0 wr) (fun vk _ => 2 - (intOf vk).toNat)
  case atStart => exact ⟨0, by omega, rfl, Below.refl _ _⟩
  case round =>
    generalize wr = wq at *
    obtain ⟨k, hk, rfl, hB⟩ := hrel
    have hl4 := heap_lt Hb4.out
    have hl5 := heap_lt Hb5.out
    have hszq := hB.size
    have belQ := HBA.out.trans (hB.mono HBA.out.size)
    have belQ2 : Below w.heap.size w (wq.alloc (.cells #[.string s] 9)) := belQ.alloc belQ.size _
    have hbs : (wq.alloc (.cells #[.string s] 9)).cell? ⟨wq.heap.size, 0, none⟩ = some (.string s) := by rw [cell_of (heap_alloc_new _ _)]; rfl
    have hcall : ∀ fb, fb < w.heap.size → w.cell? ⟨fb, 2, none⟩ = some (.map none) → w.cell? ⟨fb, 3, none⟩ = some (.map none) → Calls Ybaz.prog 80 #[.pointer (some ⟨fb, 0, none⟩), .slice (some ⟨wq.heap.size, 0, none⟩) 1 1] (wq.alloc (.cells #[.string s] 9)) fun e w' => e = .returned (.slice none 0 0) ∧ Below (wq.alloc (.cells #[.string s] 9)).heap.size (wq.alloc (.cells #[.string s] 9)) w' := fun fb hfb k2 k3 =>
      rulesByLine80 fb wq.heap.size s _ hs hbs ((belQ2.cell (p := ⟨fb, 2, none⟩) hfb).trans k2) ((belQ2.cell (p := ⟨fb, 3, none⟩) hfb).trans k3)
    have HC0 := hid (hcall f0 hlt0 HH.out.1.1 HH.out.1.2); have HC1 := hid (hcall f1 hlt1 HH.out.2.1 HH.out.2.2)
    have hBA : Below W0.heap.size W0 (wq.alloc (.cells #[.string s] 9)) := hB.alloc hszq _
    have HBA2 := hid hBA; have HBQ := hid hB; have HbelQ := hid belQ
    clear hB belQ belQ2 hbs hcall hBA
    match k with
    | 0 =>
      go_wp2_with fail
      refine HC0.out.mono ?_
      rintro e w2 ⟨rfl, hB2⟩
      have HB2 := hid (HBA2.out.trans (hB2.mono HBA2.out.size))
      clear hB2
      go_wp2
      go_loopw [25] (fun vj wr => vj = .int .i64 0 ∧ wr = w2) (fun _ _ => 0)
      case atStart => exact ⟨rfl, rfl⟩
      case round =>
        obtain ⟨rfl, rfl⟩ := hrel
        go_wp2
        go_roundw
        case rel => exact ⟨1, by omega, by go_num, HB2.out⟩
        case measure => simp [intOf]
    | 1 =>
      go_wp2_with fail
      refine HC1.out.mono ?_
      rintro e w2 ⟨rfl, hB2⟩
      have HB2 := hid (HBA2.out.trans (hB2.mono HBA2.out.size))
      clear hB2
      go_wp2
      go_loopw [25] (fun vj wr => vj = .int .i64 0 ∧ wr = w2) (fun _ _ => 0)
      case atStart => exact ⟨rfl, rfl⟩
      case round =>
        obtain ⟨rfl, rfl⟩ := hrel
        go_wp2
        go_roundw
        case rel => exact ⟨2, by omega, by go_num, HB2.out⟩
        case measure => simp [intOf]
    | 2 =>
      have hq5 : wq.heap[w.heap.size + 1]? = some (.cells #[.slice none 0 0, .bool false, .slice none 0 0, .slice none 0 0] 75 (0, 0)) := (HBQ.out.block _ hl5).trans Hb5.out
      have hq4 : wq.heap[w.heap.size]? = some (.cells #[.slice none 0 0, .bool false, .slice none 0 0, .slice none 0 0] 75 (0, 0)) := (HBQ.out.block _ hl4).trans Hb4.out
      have a0 : wq.cell? ⟨w.heap.size + 1, 0, none⟩ = some (.slice none 0 0) := by rw [cell_of hq5]; rfl
      have a1 : wq.cell? ⟨w.heap.size + 1, 1, none⟩ = some (.bool false) := by rw [cell_of hq5]; rfl
      have a2 : wq.cell? ⟨w.heap.size + 1, 2, none⟩ = some (.slice none 0 0) := by rw [cell_of hq5]; rfl
      have a3 : wq.cell? ⟨w.heap.size + 1, 3, none⟩ = some (.slice none 0 0) := by rw [cell_of hq5]; rfl
      have b0 : wq.cell? ⟨w.heap.size, 0, none⟩ = some (.slice none 0 0) := by rw [cell_of hq4]; rfl
      have b1 : wq.cell? ⟨w.heap.size, 1, none⟩ = some (.bool false) := by rw [cell_of hq4]; rfl
      have b2 : wq.cell? ⟨w.heap.size, 2, none⟩ = some (.slice none 0 0) := by rw [cell_of hq4]; rfl
      have b3 : wq.cell? ⟨w.heap.size, 3, none⟩ = some (.slice none 0 0) := by rw [cell_of hq4]; rfl
      have z0 := frozen_of hq4 0; have z1 := frozen_of hq4 1; have z2 := frozen_of hq4 2; have z3 := frozen_of hq4 3
      have Hq4 := hid hq4
      clear hq5 hq4
      go_wp2_with (go_at_call 83; refine (equalFunc83 _ _).mono ?_; rintro e w' ⟨rfl, rfl⟩)
      (try simp only [Exit.inBlock, Exit.then])
      refine bodyPost_ret (results_cell_row rfl _ _ w.heap.size 75 #[.slice none 0 0, .bool false, .slice none 0 0, .slice none 0 0] (0, 0) _ rfl ?_ Ybaz.underlying75 rfl (by kernel_rfl)) rfl ?_
      · rw [heap_set (heap_set (heap_set (heap_set Hq4.out 0 _) 1 _) 2 _) 3 _]; rfl
      · refine ⟨rfl, ?_⟩
        exact (((HbelQ.out.setCell (Nat.le_refl _) _).setCell (Nat.le_refl _) _).setCell (Nat.le_refl _) _).setCell (Nat.le_refl _) _
end Go.Proofs.YbulkchuuGreatDoor
