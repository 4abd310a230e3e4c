import Derived.Test.YbulkchugDoorEsc
import Derived.Deep.RegionWith
namespace Go.Proofs.YbulkchugDoor
open Go.RowKit
set_option linter.unusedVariables false
set_option linter.unusedSimpArgs false
set_option maxRecDepth 100000

/-- what the walk is told of a slice of bytes that came in -/
def Row8 (w : World) (a : Option Addr) (len : Nat) (zs : List Int) : Prop :=
  len = 0 ∨ ∃ bb off, a = some ⟨bb, off, none⟩ ∧ ∀ i, i < len → bb < w.heap.size ∧ w.cell? ⟨bb, off + i, none⟩ = some (.int .u8 (zs.getD i 0)) ∧ 0 ≤ zs.getD i 0 ∧ zs.getD i 0 ≤ 255

section
variable {P : Program} (w : World)
/-- a string appended within the capacity -/
theorem wpList_append_string_fits {ops : Array Oper} {rest : List Oper} {o : Oper} {a : Act} {Q : Exit → Act → World → Prop} (hgd : o.guard = none) (sl x : Operand) (t u : TypeId)
    (ho : o.op = .call { callee := .builtin .append, args := #[sl, x], argTypes := #[t, u] })
    (base : Nat) (e : TypeId) (i : TypeInfo) (ht : P.underlying t = some (.slice e)) (hu : P.underlying u = some .string) (hi : P.info? e = some i) (hz : i.zero = some (.int .u8 0))
    (hsize : i.size = 1) (hby : i.bytes = 1)
    (g n cap : Nat) (xs : List Value) (hs : a.eval sl = .slice (some ⟨g, 0, none⟩) n cap) (hown : w.ownsRow base e 1 (.slice (some ⟨g, 0, none⟩) n cap) n xs) (s : ByteArray) (hx : a.eval x = .string s)
    (h63 : n + s.size ≤ maxLen) (hbytes : n + s.size ≤ 140737488355328) (hbase : base ≤ w.heap.size) (hroom : n + s.size ≤ cap)
    (h : ∀ w', w'.ownsRow base e 1 (.slice (some ⟨g, 0, none⟩) (n + s.size) cap) (n + s.size) (xs ++ Lib.strCells s) → w.grownBy w' (some g) → wpList P ops Q rest (a.put o.dst (.slice (some ⟨g, 0, none⟩) (n + s.size) cap)) w') : wpList P ops Q (o :: rest) a w := by
  refine wpList_plain hgd fun K hK => ?_
  obtain ⟨v', w', hr, h2, h3, h4⟩ := Lib.run_append_own_string (P := P) w base t u o.type e i ht hu hi hz hsize hby _ n xs hown s h63 hbytes hbase
  have hv : v' = .slice (some ⟨g, 0, none⟩) (n + s.size) cap := by
    rcases hown.2 with ⟨hv, _⟩ | ⟨g', cap', cur, hv, _, hg, _, _, hcs, _⟩
    · cases hv
    · injection hv with e1 e2 e3
      injection e1 with e1
      injection e1 with e1
      subst e1; subst e3
      have hr2 := Lib.run_append_room_string (P := P) w t u o.type e i ht hu hi hsize g n cap cur hg s hroom (by omega)
      rw [hr2] at hr
      injection hr with hv _
      exact hv.symm
  subst hv
  unfold Oper.wp execOp
  simp only [ho, resolve, invoke, builtin, Sem.run_bind, Sem.run_pure, Result.andThen_ok, List.map_toArray, List.map_cons, List.map_nil, hs, hx, hr]
  exact hK _ _ (h w' h2 h3)
end

theorem row8_at {w : World} {a : Option Addr} {len : Nat} {zs : List Int} (h : Row8 w a len zs) {i : Nat} (hi : i < len) : ∃ bb off, a = some ⟨bb, off, none⟩ ∧ bb < w.heap.size ∧ w.cell? ⟨bb, off + i, none⟩ = some (.int .u8 (zs.getD i 0)) ∧ 0 ≤ zs.getD i 0 ∧ zs.getD i 0 ≤ 255 := by
  rcases h with h | ⟨bb, off, rfl, h⟩
  · omega
  · exact ⟨bb, off, rfl, h i hi⟩

theorem conv_of (wx : World) (gu cap : Nat) (l : List UInt8) (cur : Array Value) (fr : Nat × Nat) (hg : wx.heap[gu]? = some (.cells cur 5 fr)) (ht : cur.toList.take (l.length * 1) = Lib.byteCells l) :
    (convert 39 9 (.slice (some ⟨gu, 0, none⟩) l.length cap)).run Ybad.prog wx = .ok (.string ⟨l.toArray⟩) wx := by
  have h := run_convert_bytes_arg (P := Ybad.prog) wx 39 5 Ybad.underlying39 Ybad.underlying5 gu 0 l.length cap (l.map fun b => (b.toNat : Int)) (by simp) (fun i hi => by
    rw [Nat.zero_add, Lib.cell_of_heap hg]
    have h1 : (cur.toList.take (l.length * 1))[i]? = (Lib.byteCells l)[i]? := by rw [ht]
    rw [List.getElem?_take, if_pos (by omega)] at h1
    rw [← Array.getElem?_toList, h1]
    simp [Lib.byteCells, hi, List.getD]) 9 Ybad.underlying9
  rw [h]
  have e : strOfNums (l.map fun b => (b.toNat : Int)) = ⟨l.toArray⟩ := by
    unfold strOfNums
    simp [List.map_map, Function.comp_def]
  rw [e]

set_option maxHeartbeats 2000000 in
theorem law_any (s : ByteArray) (a1 a2 : Option Addr) (n1 c1 n2 c2 : Nat) (z1 z2 : List Int) (w : World) (hs : s.size ≤ 4096) (hn1 : n1 ≤ 1024) (hn2 : n2 ≤ 1024)
    (r1 : Row8 w a1 n1 z1) (r2 : Row8 w a2 n2 z2) (hE : EscAt w) :
    Calls Ybad.prog 5 #[.string s, .slice a1 n1 c1, .slice a2 n2 c2] w fun e w' => e = .returned (.bool true) ∧ Below w.heap.size w w' := by
  have hB : 0 < w.heap.size := by obtain ⟨t, fr, h⟩ := hE; exact (Array.getElem?_eq_some_iff.1 h).1
  obtain ⟨i0, hi, hz0, hz1, hz2⟩ := info_parts info5
  have hs1 : ¬ (4096 : Int) < (s.size : Int) := by omega
  have hs2 : ¬ (1024 : Int) < (n1 : Int) := by omega
  have hs3 : ¬ (1024 : Int) < (n2 : Int) := by omega
  have hd1 : decide ((4096 : Int) < (s.size : Int)) = false := by simpa using hs1
  have hd2 : decide ((1024 : Int) < (n1 : Int)) = false := by simpa using hs2
  have hd3 : decide ((1024 : Int) < (n2 : Int)) = false := by simpa using hs3
  go_enter Ybad.func5, Ybad.ntmps5
  go_wp2_with fail
  refine (writeString_fresh w.heap.size s _ (heap_alloc_new w _) (by omega)).mono ?_
  rintro e w1 ⟨rfl, ⟨v, hbld⟩, hb1, hsz1⟩
  go_wp2_with (at_make; refine wpList_make_own _ rfl _ _ 39 rfl w.heap.size 5 i0 (.int .u8 0) 1 Ybad.underlying39 hi hz0 hz1 _ _ _ (s.size + 2 * n1 + 2 * n2) rfl rfl ?b0 ?b1 ?b2 ?b3 ?_)
  case b0 => push_cast; rfl
  case b1 => rw [hz2]; omega
  case b2 => unfold maxLen; omega
  case b3 => omega
  intro w2 hown hgrow
  go_wp2_with (at_builtin; refine wpList_append_string_fits _ rfl _ _ 39 9 rfl w.heap.size 5 i0 Ybad.underlying39 Ybad.underlying9 hi hz0 hz1 hz2 w1.heap.size 0 (s.size + 2 * n1 + 2 * n2) _ rfl hown s rfl ?d1 ?d2 ?d3 ?d4 ?_)
  case d1 => unfold maxLen; omega
  case d2 => omega
  case d3 => have := hgrow.size; omega
  case d4 => omega
  intro w3 hown3 hgrow3
  have hbel1 : Below w.heap.size w w1 := ((Below.refl _ w).alloc (Nat.le_refl _) _).trans hb1
  have hbel2 : Below w.heap.size w w2 := hbel1.grown hgrow (by omega) (fun k hk => by cases hk)
  have hsz2 : w1.heap.size ≤ w2.heap.size := hgrow.size
  have hbel3 : Below w.heap.size w w3 := hbel2.grown hgrow3 (by omega) (fun k hk => by injection hk with hk; omega)
  have ht2 : Two w.heap.size w.heap.size (Lib.strCells s) (.slice (some ⟨w1.heap.size, 0, none⟩) 0 (s.size + 2 * n1 + 2 * n2)) [] w2 := by
    obtain ⟨q1, q2, q3, q4, q5⟩ := hbld
    refine ⟨v, ⟨q1, (hgrow.block _ hsz1 (by simp)).trans q2, q3.kept hgrow ?_, q4, q5⟩, hown, w1.heap.size, rfl, by omega, ?_⟩
    · cases hv : v.ownBlock
      · exact .inl rfl
      · exact .inr (by simp)
    · intro e; have := (q3.lt _ e).2; omega
  have ht3 : Two w.heap.size w.heap.size (Lib.strCells s) (.slice (some ⟨w1.heap.size, 0, none⟩) (0 + s.size) (s.size + 2 * n1 + 2 * n2)) (Lib.strCells s) w3 :=
    ht2.grown (by simpa [Lib.strCells_length] using hown3) hgrow3 (.inl rfl)
  have HE : Hid (EscAt w) := hE
  have HR1 : Hid _ := r1
  have HR2 : Hid _ := r2
  clear hbld hb1 hown hgrow hown3 hgrow3 ht2 hbel1 hbel2 r1 r2
  go_wp2_with fail
  go_loopw [8, 9] (fun t i wr => ∃ (k : Nat) (l : List UInt8), k ≤ n1 ∧ i = .int .i64 k ∧ Two w.heap.size w.heap.size (Lib.byteCells l) t (Lib.byteCells l) wr ∧ Below w.heap.size w wr ∧ l.length ≤ s.size + 2 * k) (fun _ i _ => n1 - (intOf i).toNat)
  case atStart => 
    refine ⟨0, s.data.toList, by omega, rfl, ?_, hbel3, ?_⟩
    · rw [Lib.strCells_eq] at ht3; simpa using ht3
    · have := Lib.strCells_length s; rw [Lib.strCells_eq, Lib.byteCells_length] at this; omega
  case round =>
    obtain ⟨k, l, hk, rfl, h1, hb1, hl⟩ := hrel
    clear hbel3 ht3
    by_cases hkn : k < n1
    · obtain ⟨bb, off, rfl, hbb, hcell, hz⟩ := row8_at (show Row8 w a1 n1 z1 from HR1.out) hkn
      have hcell1 := hb1.cell (p := ⟨bb, off + k, none⟩) hbb
      rw [hcell] at hcell1
      generalize z1.getD k 0 = c at *
      clear hcell
      go_wp2_with fail
      refine (unescaped_any w.heap.size w.heap.size _ _ _ c _ h1 (by rw [Lib.byteCells_length]; omega) hB (hE.below hb1 hB)).mono ?_
      rintro e w4 ⟨rfl, h4, hb4⟩
      go_wp2_with fail
      refine (model_one w.heap.size w.heap.size _ _ _ c _ h4 (by rw [Lib.byteCells_length]; omega)).mono ?_
      rintro e w5 ⟨u', rfl, h5, hb5⟩
      go_wp2
      go_roundw
      case rel =>
        obtain ⟨l', hl', hll⟩ := mdl_bytes c hz
        rw [hl', ← Lib.byteCells_append] at h5
        exact ⟨k + 1, l ++ l', by omega, by go_num, h5, (hb1.trans hb4).trans hb5, by simp; omega⟩
      case measure => simp [intOf]; omega
    · clear HR1 hE
      have hE' : EscAt wr := HE.out.below hb1 hB
      go_wp2
      go_loopw [8, 11] (fun t i wr => ∃ (k : Nat) (l : List UInt8), k ≤ n2 ∧ i = .int .i64 k ∧ Two w.heap.size w.heap.size (Lib.byteCells l) t (Lib.byteCells l) wr ∧ Below w.heap.size w wr ∧ l.length ≤ s.size + 2 * n1 + 2 * k) (fun _ i _ => n2 - (intOf i).toNat)
      case atStart => exact ⟨0, l, by omega, rfl, h1, hb1, by omega⟩
      case round =>
        clear h1 hb1 hl hE'
        obtain ⟨k2, l2, hk2, rfl, h1, hb1, hl⟩ := hrel
        by_cases hkn2 : k2 < n2
        · obtain ⟨bb, off, rfl, hbb, hcell, hz⟩ := row8_at (show Row8 w a2 n2 z2 from HR2.out) hkn2
          have hcell1 := hb1.cell (p := ⟨bb, off + k2, none⟩) hbb
          rw [hcell] at hcell1
          generalize z2.getD k2 0 = x at *
          clear hcell
          go_wp2_with fail
          refine (pick_any x _ hz).mono ?_
          rintro e w3' ⟨c, rfl, hc0, hc1, rfl⟩
          go_wp2_with fail
          refine (unescaped_any w.heap.size w.heap.size _ _ _ c _ h1 (by rw [Lib.byteCells_length]; omega) hB (HE.out.below hb1 hB)).mono ?_
          rintro e w4 ⟨rfl, h4, hb4⟩
          go_wp2_with fail
          refine (model_one w.heap.size w.heap.size _ _ _ c _ h4 (by rw [Lib.byteCells_length]; omega)).mono ?_
          rintro e w5 ⟨u', rfl, h5, hb5⟩
          go_wp2
          go_roundw
          case rel =>
            obtain ⟨l', hl', hll⟩ := mdl_bytes c ⟨hc0, hc1⟩
            rw [hl', ← Lib.byteCells_append] at h5
            exact ⟨k2 + 1, l2 ++ l', by omega, by go_num, h5, (hb1.trans hb4).trans hb5, by simp; omega⟩
          case measure => simp [intOf]; omega
        · have hex : ∃ gu cap cur, u8 = .slice (some ⟨gu, 0, none⟩) l2.length cap ∧ wr.heap[gu]? = some (.cells cur 5 (0, 0)) ∧ cur.toList.take (l2.length * 1) = Lib.byteCells l2 := by
            obtain ⟨v, _, hu, gu, hg1, _⟩ := h1
            rw [Lib.byteCells_length] at hu
            rcases hu.2 with ⟨hv, _⟩ | ⟨g, cap, cur, hv, _, q1, _, _, _, q2⟩
            · rw [hv] at hg1; simp [Value.ownBlock] at hg1
            · exact ⟨g, cap, cur, hv, q1, q2⟩
          obtain ⟨gu, cap, cur, rfl, hgu, htk⟩ := hex
          have hcv := conv_of wr.drew gu cap l2 cur (0, 0) hgu htk
          have Hgu : Hid _ := hgu
          have Htk : Hid _ := htk
          clear hgu htk
          go_wp2
          go_region_with (go_at_call 13; refine (string_two w.heap.size w.heap.size l2 (Lib.byteCells l2) (.slice (some ⟨gu, 0, none⟩) l2.length cap) _ ?_).mono ?_; exact h1.drew; rintro e w4 ⟨rfl, hb4, hk4⟩; have hcv4 := conv_of w4 gu cap l2 cur (0, 0) ((hk4 gu rfl).trans Hgu.out) Htk.out)
          all_goals
            go_wp2
            go_ret
            exact ⟨rfl, hb1.drew.trans hb4⟩
end Go.Proofs.YbulkchugDoor
