import Derived.Test.YbulkchugDoorPre2
import Derived.BigRegion
namespace Go.Proofs.YbulkchugDoor.Pre
open Go.RowKit
set_option linter.unusedVariables false
set_option linter.unusedSimpArgs false
set_option maxRecDepth 100000

/-- the conjuncts above: a slice with spare room, its row in a block that 'ok' lets by -/
def AboveAt (w : World) (ok : Nat → Prop) (sl : Value) (ys : List Value) : Prop :=
  Ifs ys ∧ ((sl = .slice none 0 0 ∧ ys = []) ∨ ∃ g cap cur, ok g ∧ sl = .slice (some ⟨g, 0, none⟩) ys.length cap ∧ w.heap[g]? = some (.cells cur 32 (0, 0)) ∧ cur.toList.take ys.length = ys)

theorem AboveAt.move {w w' : World} {ok ok' : Nat → Prop} {sl : Value} {xs : List Value} (h : AboveAt w ok sl xs) (hk : ∀ k, ok k → w'.heap[k]? = w.heap[k]? ∧ ok' k) : AboveAt w' ok' sl xs := by
  obtain ⟨h1, h2⟩ := h
  refine ⟨h1, ?_⟩
  rcases h2 with h2 | ⟨g, cap, cur, h3, h4, h5, h6⟩
  · exact .inl h2
  · exact .inr ⟨g, cap, cur, (hk g h3).2, h4, ((hk g h3).1).trans h5, h6⟩

theorem AboveAt.slice {w : World} {ok : Nat → Prop} {sl : Value} {xs : List Value} (h : AboveAt w ok sl xs) : ∃ ao n c, sl = .slice ao n c := by
  rcases h.2 with ⟨h, _⟩ | ⟨g, cap, cur, _, h, _⟩
  · exact ⟨_, _, _, h⟩
  · exact ⟨_, _, _, h⟩

theorem AboveAt.src {w : World} {ok : Nat → Prop} {sl : Value} {xs : List Value} (h : AboveAt w ok sl xs) : SrcAt sl xs w := by
  obtain ⟨h1, h2⟩ := h
  refine ⟨h1.one, ?_⟩
  rcases h2 with ⟨rfl, rfl⟩ | ⟨g, cap, cur, h3, rfl, h5, h6⟩
  · exact .inl ⟨0, rfl, rfl⟩
  · refine .inr ⟨⟨g, 0, none⟩, cap, rfl, fun j u hj => ?_⟩
    have hadd : (⟨g, 0, none⟩ : Addr).add j = ⟨g, j, none⟩ := by unfold Addr.add; split <;> simp_all
    rw [hadd, cell_of h5]
    rw [← h6, List.getElem?_take] at hj
    split at hj
    · simpa using hj
    · cases hj

theorem AboveAt.of_own {w : World} {B n : Nat} {v : Value} {xs : List Value} {ok : Nat → Prop} (h : w.ownsRow B 32 1 v n xs) (hi : Ifs xs) (hok : ∀ k, v.ownBlock = some k → ok k) : AboveAt w ok v xs := by
  refine ⟨hi, ?_⟩
  have hl : xs.length = n := by simpa using h.1
  rcases h.2 with ⟨rfl, rfl⟩ | ⟨g, cap, cur, rfl, _, hg, _, _, _, ht⟩
  · exact .inl ⟨rfl, List.eq_nil_of_length_eq_zero hl⟩
  · exact .inr ⟨g, cap, cur, hok g rfl, by rw [hl], hg, by rw [hl]; simpa using ht⟩

theorem SrcAt.below {x : Value} {news : List Value} {w w' : World} (h : SrcAt x news w) (hb : ∀ a v, w.cell? a = some v → w'.cell? a = some v) : SrcAt x news w' := by
  obtain ⟨h1, h2⟩ := h
  refine ⟨h1, ?_⟩
  rcases h2 with h2 | ⟨ad, c, h3, h4⟩
  · exact .inl h2
  · exact .inr ⟨ad, c, h3, fun j u hj => hb _ _ (h4 j u hj)⟩

theorem cell_below {w w' : World} (h : Below w.heap.size w w') (a : Addr) (v : Value) (hv : w.cell? a = some v) : w'.cell? a = some v :=
  (h.cell (World.block_lt_of_cell? w a hv)).trans hv

set_option maxHeartbeats 2000000 in
/-- concat(x, y): all in new memory -/
theorem concat_any (x y : Value) (xs ys : List Value) (g : Nat) (w : World) (hg : w.heap[g]? = some (.cells #[x, y] 23 (0, 0))) (hx : SrcAt x xs w) (hy : SrcAt y ys w) (hb : xs.length + ys.length ≤ 1000000) :
    Calls Ybad.prog 20 #[.slice (some ⟨g, 0, none⟩) 2 2] w fun e w' => ∃ v, e = .returned v ∧ w'.ownsRow w.heap.size 32 1 v (xs.length + ys.length) (xs ++ ys) ∧ Below w.heap.size w w' := by
  obtain ⟨i0, hinf, hz0, hz1, hz2⟩ := info_parts info32
  have c0 : w.cell? ⟨g, 0, none⟩ = some x := by rw [cell_of hg]; rfl
  have c1 : w.cell? ⟨g, 1, none⟩ = some y := by rw [cell_of hg]; rfl
  have l1 := heap_lt hg
  have hsx : ∃ ao n c, x = .slice ao n c := by
    rcases hx.2 with ⟨c, h, _⟩ | ⟨ad, c, h, _⟩
    · exact ⟨_, _, _, h⟩
    · exact ⟨_, _, _, h⟩
  have hsy : ∃ ao n c, y = .slice ao n c := by
    rcases hy.2 with ⟨c, h, _⟩ | ⟨ad, c, h, _⟩
    · exact ⟨_, _, _, h⟩
    · exact ⟨_, _, _, h⟩
  have HX := hid hx
  have HY := hid hy
  obtain ⟨ao1, n1, cp1, rfl⟩ := hsx
  obtain ⟨ao2, n2, cp2, rfl⟩ := hsy
  clear hx hy hg
  go_enter Ybad.func20, Ybad.ntmps20
  go_wp2
  refine wp_loop_rounds 3 ?_
  rw [rounds_succ]
  go_wp2_with (at_builtin; refine wpList_append_any _ rfl _ _ 23 rfl w.heap.size 32 i0 .nilIface 16 Ybad.underlying23 hinf hz0 hz1 hz2 rfl _ _ _ rfl (World.ownsRow_nil w w.heap.size 32 1) _ rfl xs HX.out ?a1 ?a2 ?a3 ?_)
  case a1 => unfold maxLen; omega
  case a2 => omega
  case a3 => omega
  intro v1 w1 hown1 hg1 hn1
  have hb1 : Below w.heap.size w w1 := (Below.refl _ _).grown hg1 (Nat.le_refl _) (fun k hk => by cases hk)
  have d1 : w1.cell? ⟨g, 1, none⟩ = some (.slice ao2 n2 cp2) := (hb1.cell (p := ⟨g, 1, none⟩) l1).trans c1
  have HY1 := hid (HY.out.below (cell_below hb1))
  have hv1 : ∃ ao n c, v1 = .slice ao n c := by
    rcases hown1.2 with ⟨hv, _⟩ | ⟨g, cap, cur, hv, _⟩
    · exact ⟨_, _, _, hv⟩
    · exact ⟨_, _, _, hv⟩
  obtain ⟨ao3, n3, cp3, rfl⟩ := hv1
  have Hb1 := hid hb1
  have Hown1 := hid hown1
  have l2 := hb1.size
  clear hb1 hown1 hg1 hn1 c0 c1
  go_wp2
  rw [rounds_succ]
  go_wp2_with (at_builtin; refine wpList_append_any _ rfl _ _ 23 rfl w.heap.size 32 i0 .nilIface 16 Ybad.underlying23 hinf hz0 hz1 hz2 rfl _ _ _ rfl Hown1.out _ rfl ys HY1.out ?a1 ?a2 ?a3 ?_)
  case a1 => unfold maxLen; omega
  case a2 => omega
  case a3 => omega
  intro v2 w2 hown2 hg2 hn2
  have hb2 : Below w.heap.size w w2 := Hb1.out.grown hg2 l2 (fun k hk => (Hown1.out.lt k hk).1)
  go_wp2
  rw [rounds_succ]
  go_wp2
  go_ret
  exact ⟨_, rfl, hown2, hb2⟩

set_option maxHeartbeats 1000000 in
theorem sel_inputs (b : Nat) (sl q : Value) (T pb : Nat) (w : World) (hb : w.heap[b]? = some (.cells #[sl, .iface T (.pointer (some ⟨pb, 0, none⟩))] 60 (0, 0))) :
    Calls Ybad.prog 58 #[.pointer (some ⟨b, 0, none⟩)] w fun e w' => e = .returned (.slice (some ⟨w.heap.size, 0, none⟩) 1 1) ∧ w'.heap[w.heap.size]? = some (.cells #[.iface T (.pointer (some ⟨pb, 0, none⟩))] 25 (0, 0)) ∧ Below w.heap.size w w' := by
  have c1 : w.cell? ⟨b, 1, none⟩ = some (.iface T (.pointer (some ⟨pb, 0, none⟩))) := by rw [cell_of hb]; rfl
  clear hb
  go_enter Ybad.func58, Ybad.ntmps58
  go_wp2
  try go_region
  all_goals try go_wp2
  all_goals
    go_ret
    refine ⟨rfl, ?_, ?_⟩
    · exact heap_alloc_new w _
    · go_grown

set_option maxHeartbeats 1000000 in
theorem join_inputs (b : Nat) (sl : Value) (T pb T2 pb2 : Nat) (w : World) (hb : w.heap[b]? = some (.cells #[.int .i64 0, sl, .iface T (.pointer (some ⟨pb, 0, none⟩)), .iface T2 (.pointer (some ⟨pb2, 0, none⟩))] 37 (0, 0))) :
    Calls Ybad.prog 23 #[.pointer (some ⟨b, 0, none⟩)] w fun e w' => e = .returned (.slice (some ⟨w.heap.size, 0, none⟩) 2 2) ∧ w'.heap[w.heap.size]? = some (.cells #[.iface T (.pointer (some ⟨pb, 0, none⟩)), .iface T2 (.pointer (some ⟨pb2, 0, none⟩))] 25 (0, 0)) ∧ Below w.heap.size w w' := by
  have c1 : w.cell? ⟨b, 2, none⟩ = some (.iface T (.pointer (some ⟨pb, 0, none⟩))) := by rw [cell_of hb]; rfl
  have c2 : w.cell? ⟨b, 3, none⟩ = some (.iface T2 (.pointer (some ⟨pb2, 0, none⟩))) := by rw [cell_of hb]; rfl
  clear hb
  go_enter Ybad.func23, Ybad.ntmps23
  go_wp2
  go_region
  all_goals go_wp2
  all_goals
    go_ret
    refine ⟨rfl, ?_, ?_⟩
    · exact heap_alloc_new w.drew _
    · go_grown

set_option maxHeartbeats 1000000 in
theorem sel_with (b : Nat) (ao : Option Addr) (sn sc : Nat) (q : Value) (g T pb : Nat) (w : World) (hb : w.heap[b]? = some (.cells #[.slice ao sn sc, q] 60 (0, 0))) (hg : w.heap[g]? = some (.cells #[.iface T (.pointer (some ⟨pb, 0, none⟩))] 25 (0, 0))) :
    Calls Ybad.prog 60 #[.pointer (some ⟨b, 0, none⟩), .slice (some ⟨g, 0, none⟩) 1 1] w fun e w' => (∃ T2 p2, e = .returned (.iface T2 (.pointer (some ⟨p2, 0, none⟩)))) ∧ Below w.heap.size w w' := by
  have c1 : w.cell? ⟨b, 0, none⟩ = some (.slice ao sn sc) := by rw [cell_of hb]; rfl
  have c2 : w.cell? ⟨g, 0, none⟩ = some (.iface T (.pointer (some ⟨pb, 0, none⟩))) := by rw [cell_of hg]; rfl
  clear hb hg
  go_enter Ybad.func60, Ybad.ntmps60
  go_wp2
  go_region
  all_goals go_wp2
  all_goals
    go_ret
    refine ⟨⟨_, _, rfl⟩, ?_⟩
    go_grown

set_option maxHeartbeats 1000000 in
theorem join_with (b : Nat) (ao : Option Addr) (sn sc : Nat) (l r : Value) (g T pb T2 pb2 : Nat) (w : World) (hb : w.heap[b]? = some (.cells #[.int .i64 0, .slice ao sn sc, l, r] 37 (0, 0))) (hg : w.heap[g]? = some (.cells #[.iface T (.pointer (some ⟨pb, 0, none⟩)), .iface T2 (.pointer (some ⟨pb2, 0, none⟩))] 25 (0, 0))) :
    Calls Ybad.prog 51 #[.pointer (some ⟨b, 0, none⟩), .slice (some ⟨g, 0, none⟩) 2 2] w fun e w' => (∃ T2 p2, e = .returned (.iface T2 (.pointer (some ⟨p2, 0, none⟩)))) ∧ Below w.heap.size w w' := by
  have c0 : w.cell? ⟨b, 0, none⟩ = some (.int .i64 0) := by rw [cell_of hb]; rfl
  have c1 : w.cell? ⟨b, 1, none⟩ = some (.slice ao sn sc) := by rw [cell_of hb]; rfl
  have c2 : w.cell? ⟨g, 0, none⟩ = some (.iface T (.pointer (some ⟨pb, 0, none⟩))) := by rw [cell_of hg]; rfl
  have c3 : w.cell? ⟨g, 1, none⟩ = some (.iface T2 (.pointer (some ⟨pb2, 0, none⟩))) := by rw [cell_of hg]; rfl
  clear hb hg
  go_enter Ybad.func51, Ybad.ntmps51
  go_wp2
  go_region
  all_goals go_wp2
  all_goals
    go_ret
    refine ⟨⟨_, _, rfl⟩, ?_⟩
    go_grown

/-- the variable 'all' and its row -/
def AllAt (B ba : Nat) (u : Value) (xs : List Value) (w : World) : Prop :=
  B ≤ ba ∧ w.heap[ba]? = some (.cells #[u] 23 (0, 0)) ∧ w.ownsRow B 32 1 u xs.length xs

theorem own_ne {B ba n : Nat} {u u0 : Value} {xs : List Value} {w : World} (h : w.ownsRow B 32 1 u n xs) (hb : w.heap[ba]? = some (.cells #[u0] 23 (0, 0))) : u.ownBlock ≠ some ba := by
  rcases h.2 with ⟨rfl, _⟩ | ⟨g, cap, cur, rfl, _, hg, _⟩
  · simp [Value.ownBlock]
  · intro e
    simp only [Value.ownBlock, Option.some.injEq] at e
    subst e
    rw [hb] at hg
    simp at hg

theorem AllAt.append {B ba : Nat} {u u' : Value} {xs ys : List Value} {w w' : World} (h : AllAt B ba u xs w) (ho : w'.ownsRow B 32 1 u' (xs.length + ys.length) (xs ++ ys)) (hg : w.grownBy w' u.ownBlock) (hn : Next w u.ownBlock u'.ownBlock) :
    AllAt B ba u' (xs ++ ys) (w'.setCell ⟨ba, 0, none⟩ u') ∧ Fr ba ba u.ownBlock w (w'.setCell ⟨ba, 0, none⟩ u') ∧ w'.heap[ba]? = some (.cells #[u] 23 (0, 0)) := by
  obtain ⟨s1, s5, s6⟩ := h
  have hne2 := own_ne s6 s5
  have l2 := heap_lt s5
  have e2 : w'.heap[ba]? = some (.cells #[u] 23 (0, 0)) := (hg.block ba l2 (fun e => hne2 e.symm)).trans s5
  have hgr : w'.grownBy (w'.setCell ⟨ba, 0, none⟩ u') (some ba) := ⟨rfl, rfl, rfl, by simp [World.setCell], fun k _ hk => Below.heap_setCell _ _ _ _ (fun e => hk (by simp [e]))⟩
  refine ⟨⟨s1, heap_set e2 0 u', ?_⟩, ?_, e2⟩
  · have := ho.kept hgr (.inr (own_ne ho e2))
    simpa using this
  · exact ((Fr.refl ba ba u.ownBlock w).grown (Next.refl _ _) hg).setCell ba 0 u' (.inl rfl)

theorem AllAt.frame {B ba : Nat} {u : Value} {xs : List Value} {w w' : World} (h : AllAt B ba u xs w) (hb : Below w.heap.size w w') : AllAt B ba u xs w' := by
  obtain ⟨s1, s5, s6⟩ := h
  refine ⟨s1, (hb.block ba (heap_lt s5)).trans s5, s6.kept (row := none) ⟨hb.os, hb.tape, hb.output, hb.size, fun k hk _ => hb.block k hk⟩ ?_⟩
  cases hv : u.ownBlock
  · exact .inl rfl
  · exact .inr (by simp)

set_option maxHeartbeats 1000000 in
/-- the closure that gathers: all = append(all, conds...) -/
theorem gather (B ba : Nat) (u sl : Value) (xs ys : List Value) (w : World) (h : AllAt B ba u xs w) (hs : SrcAt sl ys w) (hb : xs.length + ys.length ≤ 1000000) :
    Calls Ybad.prog 15 #[sl, .pointer (some ⟨ba, 0, none⟩)] w fun e w' => ∃ u', e = .returned (.tuple #[]) ∧ AllAt B ba u' (xs ++ ys) w' ∧ Fr ba ba u.ownBlock w w' ∧ Next w u.ownBlock u'.ownBlock := by
  obtain ⟨i0, hinf, hz0, hz1, hz2⟩ := info_parts info32
  have H := hid h
  have HSrc := hid hs
  obtain ⟨s1, s2, s3⟩ := h
  have Hs3 := hid s3
  have c1 : w.cell? ⟨ba, 0, none⟩ = some u := by rw [cell_of s2]; rfl
  have l1 := heap_lt s2
  have hsx : ∃ ao n c, sl = .slice ao n c := by
    rcases hs.2 with ⟨c, h, _⟩ | ⟨ad, c, h, _⟩
    · exact ⟨_, _, _, h⟩
    · exact ⟨_, _, _, h⟩
  obtain ⟨ao, n, cp, rfl⟩ := hsx
  clear hs s2 s3
  go_enter Ybad.func15, Ybad.ntmps15
  go_wp2_with (at_builtin; refine wpList_append_any _ rfl _ _ 23 rfl B 32 i0 .nilIface 16 Ybad.underlying23 hinf hz0 hz1 hz2 rfl _ _ _ rfl Hs3.out _ rfl ys HSrc.out ?a1 ?a2 ?a3 ?_)
  case a1 => unfold maxLen; omega
  case a2 => omega
  case a3 => omega
  intro u' w' ho hg hn
  obtain ⟨A1, F1, e1⟩ := H.out.append ho hg hn
  have c2 : w'.cell? ⟨ba, 0, none⟩ = some u := by rw [cell_of e1]; rfl
  have f2 := frozen_of e1 0
  have hu : ∃ ao n c, u' = .slice ao n c := by
    rcases ho.2 with ⟨hv, _⟩ | ⟨g, cap, cur, hv, _⟩
    · exact ⟨_, _, _, hv⟩
    · exact ⟨_, _, _, hv⟩
  obtain ⟨ao', n', cp', rfl⟩ := hu
  clear e1
  go_wp2
  go_returns
  exact ⟨_, rfl, A1, F1, hn⟩
end Go.Proofs.YbulkchugDoor.Pre
