import Derived.Test.YbulkchuuGreatDoorA
import Derived.Test.YbulkchuuGreatDoorShelf
import Derived.Lib.AppendStr
namespace Go.Proofs.YbulkchuuGreatDoor
open Go.RowKit
set_option linter.unusedVariables false
set_option linter.unusedSimpArgs false
set_option maxRecDepth 100000

theorem info5 : (Ybaz.prog.info? 5).map (fun i => (i.zero, i.size, i.bytes)) = some (some (.int .u8 0), 1, 1) := by kernel_rfl
theorem info169 : (Ybaz.prog.info? 169).map (·.size) = some 2 := by kernel_rfl
theorem lies169 : liesAt Ybaz.prog Ybaz.prog.depth 169 (2 / Ybaz.prog.cellsOf 169) 0 169 1 = true := by kernel_rfl

/-- copyCheck at a builder that has been written to: nothing -/
theorem copyCheck_used (b : Nat) (w : World) (h0 : w.cell? ⟨b, 0, none⟩ = some (.pointer (some ⟨b, 0, none⟩))) :
    Calls Ybaz.prog 102 #[.pointer (some ⟨b, 0, none⟩)] w fun e w' => e = .returned (.tuple #[]) ∧ w' = w := by
  obtain ⟨j, hj, hjs⟩ := Option.map_eq_some_iff.1 info169
  have hpe := fun (wx : World) (ad : Addr) => Lib.run_neq_ptr_same (P := Ybaz.prog) wx (tp := 167) ad Ybaz.underlying167 hj
  go_enter Ybaz.func102, Ybaz.ntmps102
  go_wp2
  go_end0
  exact ⟨rfl, rfl⟩
/-- copyCheck at a fresh builder: its own address is laid in it -/
theorem copyCheck_fresh (b : Nat) (w : World) (h0 : w.cell? ⟨b, 0, none⟩ = some (.pointer none)) (hsh : w.shape? b = some (169, 2)) (hfz : w.frozen? ⟨b, 0, none⟩ = false) :
    Calls Ybaz.prog 102 #[.pointer (some ⟨b, 0, none⟩)] w fun e w' => e = .returned (.tuple #[]) ∧ w' = w.setCell ⟨b, 0, none⟩ (.pointer (some ⟨b, 0, none⟩)) :=
  Any.Builder_copyCheck_fresh { Ybaz.lays165 with } Ybaz.Builder_Extra_165.toX72 b w h0 hsh hfz

set_option maxHeartbeats 1000000 in
/-- WriteByte at a fresh builder -/
theorem writeByte_fresh (b : Nat) (c : Int) (w : World) (hb : w.heap[b]? = some (.cells #[.pointer none, .slice none 0 0] 169 (0, 0))) :
    Calls Ybaz.prog 75 #[.pointer (some ⟨b, 0, none⟩), .int .u8 c] w fun e w' => e = .returned .nilIface ∧ Lib.BuilderAt 169 5 b b (.pointer (some ⟨b, 0, none⟩)) [.int .u8 c] w' ∧ Below b w w' ∧ ∀ k, k < w.heap.size → k ≠ b → w'.heap[k]? = w.heap[k]? := by
  have hlt := heap_lt hb
  obtain ⟨i0, hi, hz0, hz1, hz2⟩ := info_parts info5
  have c0 : w.cell? ⟨b, 0, none⟩ = some (.pointer none) := by rw [cell_of hb]; rfl
  have hsh : w.shape? b = some (169, 2) := by simp [World.shape?, hb]
  have hfz := frozen_of hb 0
  go_enter Ybaz.func75, Ybaz.ntmps75
  go_wp2_with (go_at_call 102; refine (copyCheck_fresh b _ c0 hsh hfz).mono ?_)
  rintro e w1 ⟨rfl, hw1⟩
  have hb1 : w1.heap[b]? = some (.cells #[.pointer (some ⟨b, 0, none⟩), .slice none 0 0] 169 (0, 0)) := by
    rw [hw1, heap_set hb]; rfl
  have hbel : Below b w w1 := by rw [hw1]; exact (Below.refl b w).setCell (Nat.le_refl _) _
  have hkp : ∀ k, k ≠ b → w1.heap[k]? = w.heap[k]? := fun k hk => by rw [hw1]; exact Below.heap_setCell _ _ _ _ (by simpa using hk)
  have hsz1 : w1.heap.size = w.heap.size := by rw [hw1]; simp [World.setCell]
  have HKP := hid hkp; have HSZ := hid hsz1
  clear hkp hsz1
  have hlt1 := heap_lt hb1
  clear hw1 c0 hsh hfz
  have e1 : w1.cell? ⟨b, 1, none⟩ = some (.slice none 0 0) := by rw [cell_of hb1]; rfl
  go_wp2_with (at_builtin; refine wpList_append_own _ rfl _ _ 54 rfl b 5 i0 (.int .u8 0) 1 1 Ybaz.underlying54 hi hz0 hz1 hz2 rfl (by decide) _ _ _ rfl ((World.ownsRow_nil w1 b 5 1).alloc _) ⟨w1.heap.size, 0, none⟩ 1 1 [.int .u8 c] rfl rfl ?c1 ?c2 ?c3 ?c4 ?c5 ?_)
  case c1 =>
    intro t u ht
    rw [Go.WideShapes.add_plain, Nat.zero_add, cell_of (heap_alloc_new _ _)]
    simpa using ht
  case c2 => simp [Value.oneCell']
  case c3 => unfold maxLen; omega
  case c4 => omega
  case c5 => simp; omega
  intro v' w2 hown' hgrow _
  have hb2 : w2.heap[b]? = some (.cells #[.pointer (some ⟨b, 0, none⟩), .slice none 0 0] 169 (0, 0)) := by
    rw [hgrow.block b (by simp; omega) (by simp [Value.ownBlock]), Below.heap_alloc _ _ _ hlt1]
    exact hb1
  have d1 : w2.cell? ⟨b, 1, none⟩ = some (.slice none 0 0) := by rw [cell_of hb2]; rfl
  have f1 := frozen_of hb2 1
  obtain ⟨g, cap, rfl⟩ : ∃ g cap, v' = .slice (some ⟨g, 0, none⟩) 1 cap := by
    rcases hown'.2 with ⟨_, h0⟩ | ⟨g, cap, cur, hv, _⟩
    · omega
    · exact ⟨g, cap, hv⟩
  go_wp2
  go_ret
  have hgs : w2.grownBy (w2.setCell ⟨b, 1, none⟩ (.slice (some ⟨g, 0, none⟩) 1 cap)) (some b) := ⟨rfl, rfl, rfl, by simp [World.setCell], fun i _ hi => Below.heap_setCell _ _ _ _ (fun e => hi (by simp [e]))⟩
  have hne' : (Value.slice (some ⟨g, 0, none⟩) 1 cap).ownBlock ≠ some b := Lib.ownBlock_ne hown' hb2 (by decide)
  refine ⟨rfl, ⟨Nat.le_refl _, _, by rw [heap_set hb2]; rfl, ?_, hne'⟩, ?_⟩
  · have := hown'.kept hgs (.inr hne')
    simpa using this
  · refine ⟨(((hbel.alloc (by omega) _).grown hgrow (by simp; omega) (fun k hk => by simp [Value.ownBlock] at hk))).setCell (p := ⟨b, 1, none⟩) (Nat.le_refl _) _, fun k hk hkb => ?_⟩
    have hs := HSZ.out
    rw [Below.heap_setCell _ _ _ _ (by simpa using hkb), hgrow.block k (by simp; omega) (by simp [Value.ownBlock]), Below.heap_alloc _ _ _ (by omega)]
    exact HKP.out k hkb

set_option maxHeartbeats 1000000 in
/-- WriteString at a builder that has been written to -/
theorem writeString_used (b : Nat) (bs : List Value) (s : ByteArray) (w : World) (hB : Lib.BuilderAt 169 5 b b (.pointer (some ⟨b, 0, none⟩)) bs w) (hl : bs.length + s.size ≤ 1000000) :
    Calls Ybaz.prog 46 #[.pointer (some ⟨b, 0, none⟩), .string s] w fun e w' => e = .returned (.tuple #[.int .i64 s.size, .nilIface]) ∧ Lib.BuilderAt 169 5 b b (.pointer (some ⟨b, 0, none⟩)) (bs ++ Lib.strCells s) w' ∧ Below b w w' := by
  obtain ⟨_, v, hb, ho, hne⟩ := hB
  have hlt := heap_lt hb
  obtain ⟨i0, hi, hz0, hz1, hz2⟩ := info_parts info5
  have c0 : w.cell? ⟨b, 0, none⟩ = some (.pointer (some ⟨b, 0, none⟩)) := by rw [cell_of hb]; rfl
  have c1 : w.cell? ⟨b, 1, none⟩ = some v := by rw [cell_of hb]; rfl
  go_enter Ybaz.func46, Ybaz.ntmps46
  go_wp2_with (go_at_call 102; refine (copyCheck_used b _ c0).mono ?_)
  rintro e w1 ⟨rfl, rfl⟩
  go_wp2_with (at_builtin; refine Lib.wpList_append_own_string _ rfl _ _ 54 9 rfl b 5 i0 Ybaz.underlying54 Ybaz.underlying9 hi hz0 hz1 hz2 _ _ _ rfl ho s rfl ?c3 ?c4 ?c5 ?_)
  case c3 => unfold maxLen; omega
  case c4 => omega
  case c5 => omega
  intro v' w2 hown' hgrow hnil
  have hb2 : w2.heap[b]? = some (.cells #[.pointer (some ⟨b, 0, none⟩), v] 169 (0, 0)) := by
    rw [hgrow.block b hlt (fun e => hne e.symm)]
    exact hb
  have d1 : w2.cell? ⟨b, 1, none⟩ = some v := by rw [cell_of hb2]; rfl
  have f1 := frozen_of hb2 1
  obtain ⟨ao, n', cap, rfl⟩ : ∃ ao n' cap, v' = .slice ao n' cap := by
    rcases hown'.2 with ⟨hv, _⟩ | ⟨g, cap, cur, hv, _⟩
    · exact ⟨_, _, _, hv⟩
    · exact ⟨_, _, _, hv⟩
  go_wp2
  go_ret2
  have hgs : w2.grownBy (w2.setCell ⟨b, 1, none⟩ (.slice ao n' cap)) (some b) := ⟨rfl, rfl, rfl, by simp [World.setCell], fun i _ hi => Below.heap_setCell _ _ _ _ (fun e => hi (by simp [e]))⟩
  have hne' : (Value.slice ao n' cap).ownBlock ≠ some b := Lib.ownBlock_ne hown' hb2 (by decide)
  refine ⟨rfl, ⟨Nat.le_refl _, _, by rw [heap_set hb2]; rfl, ?_, hne'⟩, ?_⟩
  · have := hown'.kept hgs (.inr hne')
    simpa [Lib.strCells_length] using this
  · exact (((Below.refl b w1).grown hgrow (by omega) (fun k hk => (ho.lt k hk).1))).setCell (p := ⟨b, 1, none⟩) (Nat.le_refl _) _

def segCells : Array Value := #[.int .u8 2, .int .u8 0, .string ⟨#[42, 42]⟩, .string ⟨#[]⟩, .string ⟨#[]⟩, .bool false, .bool false]
set_option maxHeartbeats 4000000 in
/-- pattern.String at the pattern of the one segment "**" -/
theorem pattern31 (sb : Nat) (w : World) (hs : w.heap[sb]? = some (.cells segCells 148 (0, 0))) :
    Calls Ybaz.prog 31 #[.slice (some ⟨sb, 0, none⟩) 1 1] w fun e w' => e = .returned (.string ⟨#[47, 42, 42]⟩) ∧ Below w.heap.size w w' := by
  have hlt := heap_lt hs
  have s0 : w.cell? ⟨sb, 0, none⟩ = some (.int .u8 2) := by rw [cell_of hs]; rfl
  have s1 : w.cell? ⟨sb, 1, none⟩ = some (.int .u8 0) := by rw [cell_of hs]; rfl
  have s2 : w.cell? ⟨sb, 2, none⟩ = some (.string ⟨#[42, 42]⟩) := by rw [cell_of hs]; rfl
  have s3 : w.cell? ⟨sb, 3, none⟩ = some (.string ⟨#[]⟩) := by rw [cell_of hs]; rfl
  have s4 : w.cell? ⟨sb, 4, none⟩ = some (.string ⟨#[]⟩) := by rw [cell_of hs]; rfl
  have s5 : w.cell? ⟨sb, 5, none⟩ = some (.bool false) := by rw [cell_of hs]; rfl
  have s6 : w.cell? ⟨sb, 6, none⟩ = some (.bool false) := by rw [cell_of hs]; rfl
  clear hs
  have hb0 := heap_alloc_new w (.cells #[.pointer none, .slice none 0 0] 169)
  have hB0 : Below w.heap.size w (w.alloc (.cells #[.pointer none, .slice none 0 0] 169)) := (Below.refl _ _).alloc (Nat.le_refl _) _
  have Hb0 := hid hb0; have HB0 := hid hB0
  clear hb0 hB0
  go_enter Ybaz.func31, Ybaz.ntmps31
  go_wp2
  go_loopw [9] (fun vk wr => ∃ k : Nat, k ≤ 1 ∧ vk = .int .i64 k ∧ Below w.heap.size w wr ∧ (k = 0 → wr = w.alloc (.cells #[.pointer none, .slice none 0 0] 169)) ∧ (k = 1 → Lib.BuilderAt 169 5 w.heap.size w.heap.size (.pointer (some ⟨w.heap.size, 0, none⟩)) [.int .u8 47, .int .u8 42, .int .u8 42] wr)) (fun vk _ => 1 - (intOf vk).toNat)
  case atStart => exact ⟨0, by omega, rfl, HB0.out, fun _ => rfl, fun h => by omega⟩
  case round =>
    generalize wr = wq at *
    obtain ⟨k, hk, rfl, hB, hk0, hk1⟩ := hrel
    match k with
    | 0 =>
      have hwq := hk0 rfl
      clear hk0 hk1
      have hbq : wq.heap[w.heap.size]? = some (.cells #[.pointer none, .slice none 0 0] 169 (0, 0)) := by rw [hwq]; exact Hb0.out
      have hltq := heap_lt hbq
      have q0 := (hB.cell (p := ⟨sb, 0, none⟩) hlt).trans s0
      have q1 := (hB.cell (p := ⟨sb, 1, none⟩) hlt).trans s1
      have q2 := (hB.cell (p := ⟨sb, 2, none⟩) hlt).trans s2
      have q3 := (hB.cell (p := ⟨sb, 3, none⟩) hlt).trans s3
      have q4 := (hB.cell (p := ⟨sb, 4, none⟩) hlt).trans s4
      have q5 := (hB.cell (p := ⟨sb, 5, none⟩) hlt).trans s5
      have q6 := (hB.cell (p := ⟨sb, 6, none⟩) hlt).trans s6
      have hbA : (wq.alloc (.cells segCells 148)).heap[w.heap.size]? = some (.cells #[.pointer none, .slice none 0 0] 169 (0, 0)) := (Below.heap_alloc _ _ _ hltq).trans hbq
      have hsA := heap_alloc_new wq (.cells segCells 148)
      have HBA := hid (hB.alloc hB.size (.cells segCells 148))
      have Hw := hid (writeByte_fresh w.heap.size 47 _ hbA)
      have HsA := hid hsA
      unfold segCells at Hw HBA HsA
      clear hB hwq hbq hbA hsA
      go_wp2_with fail
      refine Hw.out.mono ?_
      rintro e w2 ⟨rfl, hBu, hB2, hK2⟩
      have hs2 := (hK2 wq.heap.size (by simp) (by omega)).trans HsA.out
      have t0 : w2.cell? ⟨wq.heap.size, 0, none⟩ = some (.int .u8 2) := by rw [cell_of hs2]; rfl
      have t2 : w2.cell? ⟨wq.heap.size, 2, none⟩ = some (.string ⟨#[42, 42]⟩) := by rw [cell_of hs2]; rfl
      have HWS := hid (writeString_used w.heap.size _ ⟨#[42, 42]⟩ w2 hBu (by decide))
      have HB2 := hid (HBA.out.trans hB2)
      clear hBu hB2 hK2 hs2
      go_wp2_with (go_at_call 46; refine HWS.out.mono ?_; rintro e w3 ⟨rfl, hBu3, hB3⟩)
      go_roundw
      case rel => exact ⟨1, by omega, by go_num, HB2.out.trans hB3, fun h => by omega, fun _ => hBu3⟩
      case measure => simp [intOf]
    | 1 =>
      have hBu := hk1 rfl
      clear hk0 hk1
      have hstr := Ybaz.Builder_String_any w.heap.size w.heap.size [47, 42, 42] wq (.inr hBu) hB.size
      have HStr := hid hstr; have HB := hid hB
      clear hstr hB hBu
      go_wp2_with (go_at_call 48; refine HStr.out.mono ?_; rintro e w3 ⟨rfl, hB3⟩)
      go_ret
      exact ⟨rfl, HB.out.trans hB3⟩
end Go.Proofs.YbulkchuuGreatDoor
