import Derived.Test.YbulkchugDoorPre4
namespace Go.Proofs.YbulkchugDoor.Pre
open Go.RowKit
set_option linter.unusedVariables false
set_option linter.unusedSimpArgs false
set_option maxRecDepth 100000

theorem Conds.above {w : World} {ok : Nat → Prop} {sl : Value} {xs : List Value} (h : Conds w ok sl xs) : AboveAt w ok sl xs := by
  obtain ⟨h1, h2⟩ := h
  refine ⟨h1, ?_⟩
  rcases h2 with h2 | ⟨g, h3, h4, h5⟩
  · exact .inl h2
  · exact .inr ⟨g, xs.length, xs.toArray, h3, h4, h5, by simp⟩

theorem copy_step (w : World) (g : Nat) (cur : Array Value) (sl : Value) (ys : List Value) (hg : w.heap[g]? = some (.cells cur 32 (0, 0))) (hc : cur.size = ys.length) (hs : SrcAt sl ys w) (hnil : ∀ c, sl = .slice none 0 c → c = 0) :
    ∃ w', (∀ ty, (Builtin.copy_ #[23, 23] ty #[.slice (some ⟨g, 0, none⟩) ys.length ys.length, sl]).run Ybad.prog w = .ok (goInt ys.length) w') ∧ w'.heap[g]? = some (.cells ys.toArray 32 (0, 0)) ∧ w.grownBy w' (some g) := by
  obtain ⟨h1, ⟨c, rfl, rfl⟩ | ⟨ad, c, rfl, hcell⟩⟩ := hs
  · obtain rfl := hnil c rfl
    refine ⟨w, fun ty => run_copy_nil Ybad.prog w 23 23 ty 32 ⟨g, 0, none⟩ 0 0 Ybad.underlying23 (by kernel_rfl), ?_, ⟨rfl, rfl, rfl, Nat.le_refl _, fun _ _ _ => rfl⟩⟩
    have : cur = #[] := Array.eq_empty_of_size_eq_zero (by simpa using hc)
    subst this
    exact hg
  · refine ⟨_, fun ty => run_copy_row Ybad.prog w 23 23 ty 32 g 0 ys.length ys.length ad ys.length c cur 32 ys Ybad.underlying23 (by kernel_rfl) hg (by simp) hcell (by omega) h1, ?_, ?_⟩
    · have := setRow_heap w g cur (cur.toList.take 0 ++ ys ++ cur.toList.drop (0 + ys.length)).toArray 32 (0, 0) hg
      rw [this]
      congr 2
      have hd : cur.toList.drop (0 + ys.length) = [] := List.drop_of_length_le (by simp; omega)
      rw [hd]
      simp
    · exact ⟨rfl, rfl, rfl, by simp, fun k _ hk => setRow_other w g k _ (fun e => hk (by simp [e]))⟩

theorem neq_same (w : World) (ad : Addr) : (binOp .neq 32 (.iface 65 (.pointer (some ad))) (.iface 65 (.pointer (some ad)))).run Ybad.prog w = .ok (.bool false) w := by
  obtain ⟨i, hi, hc⟩ := Option.map_eq_some_iff.1 (show (Ybad.prog.info? 65).map (·.comparable) = some true by kernel_rfl)
  obtain ⟨j, hj⟩ := Option.isSome_iff_exists.1 (show (Ybad.prog.info? 67).isSome = true by kernel_rfl)
  have h := run_equalIn_iface_ptr_same (P := Ybad.prog) w 9998 (ti := 32) (tp := 65) (te := 67) ad Ybad.underlying32 Ybad.underlying65 hi hc hj
  simp only [binOp]
  simp [Op.equal, Op.maxDepth, h]

theorem PlanAt.ifs {w : World} {ok : Nat → Prop} : ∀ (f : Nat) (p : Value) (cs : List Value), PlanAt w ok f p cs → Ifs cs
  | 0, _, _, h => absurd h (by simp [PlanAt])
  | f + 1, p, cs, h => by
    rcases h with ⟨b, _, rfl⟩ | ⟨b, _, rfl⟩ | ⟨b, sl, xs, q, cs', h1, h2, h3, h4, h5, rfl⟩ | ⟨b, sl, xs, l, cl, r, cr, h1, h2, h3, h4, h5, h6, rfl⟩
    · intro x hx; cases hx
    · intro x hx; cases hx
    · intro x hx
      rcases List.mem_append.1 hx with h | h
      · exact h4.1 x h
      · exact PlanAt.ifs f q cs' h5 x h
    · intro x hx
      rcases List.mem_append.1 hx with h | h
      · exact h4.1 x h
      · rcases List.mem_append.1 h with h | h
        · exact PlanAt.ifs f l cl h5 x h
        · exact PlanAt.ifs f r cr h6 x h

/-- an element of the conjuncts above -/
theorem cond_elem {w : World} {ok : Nat → Prop} {ao : Option Addr} {c : Nat} {ys : List Value} (h : Conds w ok (.slice ao ys.length c) ys) (k : Nat) (hk : k < ys.length) : ∃ g, ao = some ⟨g, 0, none⟩ ∧ g < w.heap.size ∧ w.cell? ⟨g, k, none⟩ = some ys[k] := by
  rcases h.2 with ⟨_, rfl⟩ | ⟨g, _, e, hg⟩
  · simp at hk
  · injection e with e1 e2 e3
    exact ⟨g, e1, heap_lt hg, by rw [cell_of hg]; simp [hk]⟩

theorem shape_of {w : World} {B n : Nat} {v : Value} {xs : List Value} (h : w.ownsRow B 32 1 v n xs) : ∃ ao c, v = .slice ao xs.length c := by
  have hl : xs.length = n := by simpa using h.1
  rcases h.2 with ⟨rfl, rfl⟩ | ⟨g, cap, cur, rfl, _⟩
  · exact ⟨none, 0, by rw [hl]⟩
  · exact ⟨_, cap, by rw [hl]⟩

/-- an element of a row, in whatever later world that has the row's block -/
theorem elem_of {w : World} {B n : Nat} {ao : Option Addr} {c : Nat} {xs : List Value} (h : w.ownsRow B 32 1 (.slice ao xs.length c) n xs) (k : Nat) (hk : k < xs.length) :
    ∃ g, ao = some ⟨g, 0, none⟩ ∧ B ≤ g ∧ g < w.heap.size ∧ w.cell? ⟨g, k, none⟩ = some xs[k] := by
  have hl : xs.length = n := by simpa using h.1
  rcases h.2 with ⟨e, rfl⟩ | ⟨g, cap, cur, e, hB, hg, _⟩
  · omega
  · injection e with e1 e2 e3
    refine ⟨g, e1, hB, heap_lt hg, ?_⟩
    have hc := h.cells (g := g) (by rw [e1]; rfl) k xs[k] (by simp)
    have hadd : (⟨g, 0, none⟩ : Addr).add k = ⟨g, k, none⟩ := by unfold Addr.add; split <;> simp_all
    rw [hadd] at hc
    exact hc

set_option maxHeartbeats 4000000 in
theorem law_any (a : Option Addr) (len cap : Nat) (ks : Nat → Int × Int) (na : Int) (w : World) (hlen : len ≤ 512) (hna : 0 ≤ na ∧ na ≤ 255) (hN : NodesAt w.heap.size a len ks w) :
    Calls Ybad.prog 3 #[.slice a len cap, .int .u8 na] w fun e w' => e = .returned (.bool true) ∧ Below w.heap.size w w' := by
  have hl : ¬ (512 : Int) < (len : Int) := by omega
  obtain ⟨q, hq, hq5⟩ : ∃ q : Nat, na % 5 = (q : Int) ∧ q < 5 := ⟨(na % 5).toNat, by omega, by omega⟩
  have HN := hid hN
  clear hN
  go_enter Ybad.func3, Ybad.ntmps3
  go_wp2_with fail
  have bel : Below w.heap.size w ((w.alloc (.cells #[.slice none 0 0] 23)).alloc (.cells #[.int .i64 0] 3)) := ((Below.refl _ _).alloc (Nat.le_refl _) _).alloc (by simp) _
  have hst : St w.heap.size (w.heap.size + 1) w.heap.size 0 (.slice none 0 0) [] ((w.alloc (.cells #[.slice none 0 0] 23)).alloc (.cells #[.int .i64 0] 3)) := by
    refine ⟨by omega, Nat.le_refl _, by omega, ?_, ?_, World.ownsRow_nil _ _ _ _⟩
    · have := heap_alloc_new (w.alloc (.cells #[.slice none 0 0] 23)) (.cells #[.int .i64 0] 3)
      simpa using this
    · rw [Below.heap_alloc _ _ _ (by simp)]; exact heap_alloc_new w _
  have l0 : ((w.alloc (.cells #[.slice none 0 0] 23)).alloc (.cells #[.int .i64 0] 3)).heap.size = w.heap.size + 2 := by simp
  refine (build_any w.heap.size a len cap ks hlen (len + 1) (w.heap.size + 1) w.heap.size 0 (.slice none 0 0) [] true _ hst (HN.out.below bel) (by omega) (by omega) (by simp; omega)).mono ?_
  rintro e w1 ⟨p, cs, u1, i1, rfl, hP1, hS1, _, hi1, hc1, hF1, hN1⟩
  obtain ⟨Tp, pb, rfl⟩ := hP1.iface
  have bel1 : Below w.heap.size w w1 := bel.trans (hF1.below (by omega) (by omega) (Nat.le_refl _) (fun k hk => by simp [Value.ownBlock] at hk))
  have HP1 := hid hP1; have HS1 := hid hS1; have HB1 := hid bel1
  have l1 := hF1.size
  clear hP1 hS1 bel1 bel hst hF1 hN1
  go_wp2_with fail
  refine (conds_any q (by omega) w1).mono ?_
  rintro e w2 ⟨sl, ys, rfl, hyl, hC2, hb2⟩
  obtain ⟨so, sn, sc, rfl⟩ := hC2.slice
  have HC2 := hid hC2; have HB2 := hid hb2
  have l2 := hb2.size
  have hsn : sn = ys.length ∧ (∀ c, (Value.slice so sn sc) = .slice none 0 c → c = 0) := by
    rcases hC2.2 with ⟨h, rfl⟩ | ⟨g, _, h, _⟩
    · injection h with e1 e2 e3; subst e1 e2 e3; exact ⟨rfl, fun c h => by injection h with _ _ h; exact h.symm⟩
    · injection h with e1 e2 e3; subst e1 e2 e3; exact ⟨rfl, fun c h => by injection h with h; cases h⟩
  obtain ⟨hsn, hsnil⟩ := hsn
  subst hsn
  have Hyl := hid hyl
  clear hC2 hyl
  obtain ⟨i0, hinf, hz0, hz1, hz2⟩ := info_parts info32
  go_wp2_with (at_make; refine wpList_make_full _ rfl _ _ 23 rfl w.heap.size 32 i0 .nilIface 1 Ybad.underlying23 hinf hz0 hz1 _ _ _ _ ys.length rfl rfl rfl rfl ?b1 ?b2 ?b3 ?_)
  case b1 => have := Hyl.out; rw [hz2]; omega
  case b2 => have := Hyl.out; unfold maxLen; omega
  case b3 => omega
  intro w3 hown3 hg3
  obtain ⟨cur, hcur, hcs⟩ : ∃ cur, w3.heap[w2.heap.size]? = some (.cells cur 32 (0, 0)) ∧ cur.size = ys.length := by
    rcases hown3.2 with ⟨h, _⟩ | ⟨g, cap, cur, h, _, hg, _, _, hs, _⟩
    · cases h
    · injection h with e1 e2 e3
      injection e1 with e1
      injection e1 with e1
      subst e1 e3
      exact ⟨cur, hg, by omega⟩
  have bel23 : Below w2.heap.size w2 w3 := (Below.refl _ _).grown hg3 (Nat.le_refl _) (fun k hk => by cases hk)
  obtain ⟨w4, hcp, hsav4, hg4⟩ := copy_step w3 w2.heap.size cur _ ys hcur hcs (HC2.out.src.below (cell_below bel23)) hsnil
  have l3 : w2.heap.size < w3.heap.size := heap_lt hcur
  have l4 := hg4.size
  have bel24 : Below w2.heap.size w2 w4 := bel23.grown hg4 (by omega) (fun k hk => by injection hk with hk; omega)
  have bel14 : Below w1.heap.size w1 w4 := HB2.out.trans (bel24.mono (by omega))
  have P4 : PlanAt w4 (fun k => k < w4.heap.size) (len + 1) (.iface Tp (.pointer (some ⟨pb, 0, none⟩))) cs :=
    PlanAt.move (fun k hk => ⟨bel14.block k hk.2.1, by have := hk.2.1; omega⟩) _ _ _ HP1.out
  have Y4 : AboveAt w4 (fun k => k < w4.heap.size) (.slice so ys.length sc) ys :=
    HC2.out.above.move (fun k hk => ⟨bel24.block k hk.2, by have := hk.2; omega⟩)
  have HP4 := hid P4; have HY4 := hid Y4; have Hsav := hid hsav4; have HB24 := hid bel24; have HB14 := hid bel14
  clear P4 Y4 hsav4 bel24 bel14 bel23 hg4 hcur hown3 hg3
  go_wp2_with fail
  refine (place_any (len + 1) _ cs _ ys w4 HP4.out HY4.out (by omega) (by have := Hyl.out; omega)).mono ?_
  rintro e w5 ⟨v5, rfl, hown5, hb5⟩
  obtain ⟨vo, vc, rfl⟩ := shape_of hown5
  obtain ⟨uo, uc, hu1⟩ := shape_of (by simpa [wanted] using HS1.out.2.2.2.2.2 : w1.ownsRow w.heap.size 32 1 u1 cs.length cs)
  subst hu1
  have bel15 : Below w1.heap.size w1 w5 := HB14.out.trans (hb5.mono (by omega))
  have bel5 : Below w.heap.size w w5 := HB1.out.trans (bel15.mono (by omega))
  have cw : w5.cell? ⟨w.heap.size, 0, none⟩ = some (.slice uo cs.length uc) := by
    have h := HS1.out.2.2.2.2.1
    rw [cell_of ((bel15.block _ (heap_lt h)).trans h)]; rfl
  have Hown5 := hid hown5; have Hb5 := hid hb5; have HB15 := hid bel15; have HB5 := hid bel5
  have l5 := hb5.size
  have hne0 : ((cs.length : Int) != (cs.length : Int)) = false := by simp
  have hifs : Ifs cs := PlanAt.ifs _ _ _ HP1.out
  have HIfs := hid hifs
  clear hown5 hb5 bel15 bel5 hifs hcp
  go_wp2
  go_loopw [11] (fun i wr => ∃ k : Nat, k ≤ cs.length ∧ i = .int .i64 k ∧ ∃ nq, wr = w5.drewN nq) (fun i _ => cs.length - (intOf i).toNat)
  case atStart => exact ⟨0, by omega, rfl, 0, rfl⟩
  case round =>
    obtain ⟨k, hk, rfl, nq, rfl⟩ := hrel
    by_cases hkn : k < cs.length
    · obtain ⟨g, hg1, _, hgl, hgc⟩ := elem_of Hown5.out k hkn
      obtain ⟨g2, hg2, _, hgl2, hgc2⟩ := elem_of (by simpa [wanted] using HS1.out.2.2.2.2.2 : w1.ownsRow w.heap.size 32 1 (.slice uo cs.length uc) cs.length cs) k hkn
      subst hg1 hg2
      have hgc5 : w5.cell? ⟨g2, k, none⟩ = some cs[k] := (HB15.out.cell (p := ⟨g2, k, none⟩) hgl2).trans hgc2
      obtain ⟨eb, he⟩ := HIfs.out cs[k] (List.getElem_mem hkn)
      rw [he] at hgc hgc5
      have hns := neq_same
      have hki : (k : Int) < (cs.length : Int) := by omega
      clear hgc2 he
      go_wp2
      go_region
      go_wp2
      go_roundw
      case rel => exact ⟨k + 1, by omega, by go_num, nq + 1, rfl⟩
      case measure => simp [intOf]; omega
    · clear HIfs HS1 HP1 Hown5 cw HN
      have hkn' : (cs.length : Int) ≤ (k : Int) := by omega
      have hne1 : ((ys.length : Int) != (ys.length : Int)) = false := by simp
      have hyb : ys.length ≤ 4 := by have := Hyl.out; omega
      go_wp2
      go_loopw [12] (fun i wr => ∃ k : Nat, k ≤ ys.length ∧ i = .int .i64 k ∧ ∃ nq, wr = w5.drewN nq) (fun i _ => ys.length - (intOf i).toNat)
      case atStart => exact ⟨0, by omega, rfl, nq, rfl⟩
      case round =>
        obtain ⟨k2, hk2, rfl, nq2, rfl⟩ := hrel
        by_cases hkn2 : k2 < ys.length
        · obtain ⟨g, hg1, hgl, hgc⟩ := cond_elem HC2.out k2 hkn2
          subst hg1
          have hgc5 : w5.cell? ⟨g, k2, none⟩ = some ys[k2] := (((HB24.out.trans (Hb5.out.mono (by omega))).cell (p := ⟨g, k2, none⟩) hgl)).trans hgc
          have hsv5 : w5.cell? ⟨w2.heap.size, k2, none⟩ = some ys[k2] := by
            rw [cell_of ((Hb5.out.block _ (heap_lt Hsav.out)).trans Hsav.out)]; simp [hkn2]
          obtain ⟨eb, he⟩ := HC2.out.1 ys[k2] (List.getElem_mem hkn2)
          rw [he] at hgc5 hsv5
          have hns := neq_same
          have hki : (k2 : Int) < (ys.length : Int) := by omega
          have HK2 := hid hkn2
          clear hgc he
          go_wp2
          go_region
          go_wp2
          go_roundw
          case rel => exact ⟨k2 + 1, by have := HK2.out; omega, by go_num, nq2 + 1, rfl⟩
          case measure => have := HK2.out; simp [intOf]; omega
        · have hkn2' : (ys.length : Int) ≤ (k2 : Int) := by omega
          go_wp2
          go_ret
          exact ⟨rfl, below_drewN HB5.out _⟩

theorem law_big (a : Option Addr) (len cap : Nat) (na : Int) (w : World) (hlen : (512 : Int) < (len : Int)) :
    Calls Ybad.prog 3 #[.slice a len cap, .int .u8 na] w fun e w' => e = .returned (.bool true) ∧ Below w.heap.size w w' := by
  go_enter Ybad.func3, Ybad.ntmps3
  go_wp2
  go_ret
  exact ⟨rfl, Below.refl _ _⟩
end Go.Proofs.YbulkchugDoor.Pre
