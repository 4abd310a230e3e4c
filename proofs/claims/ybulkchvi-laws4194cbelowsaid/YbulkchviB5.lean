import Derived.Test.YbulkchviB4
namespace Go.Proofs.Ybulkchvi
open Go.RowKit
set_option linter.unusedVariables false
set_option linter.unusedSimpArgs false
set_option maxRecDepth 100000

theorem own_move' {w w' : World} {B : Nat} {e : TypeId} {size : Nat} {v : Value} {n : Nat} {xs : List Value} (h : w.ownsRow B e size v n xs) (hb : ∀ g, v.ownBlock = some g → g < w.heap.size → w'.heap[g]? = w.heap[g]?) : w'.ownsRow B e size v n xs := by
  refine ⟨h.1, ?_⟩
  rcases h.2 with h0 | ⟨g, cap, cur, rfl, h1, h2, h3⟩
  · exact .inl h0
  · exact .inr ⟨g, cap, cur, rfl, h1, (hb g rfl (heap_lt h2)).trans h2, h3⟩

theorem coll_len (L : List (Int × Int)) (F K : Nat → Nat) (h : L.length ≤ 20000) : ∀ j, (coll L F K j).length ≤ j * 20000
  | 0 => by simp [coll]
  | j + 1 => by
    have := coll_len L F K h j
    simp only [coll, List.length_append, List.length_take, List.length_drop]
    omega
theorem coll_mem (L : List (Int × Int)) (F K : Nat → Nat) : ∀ j x, x ∈ coll L F K j → x ∈ L
  | 0, x, h => by simp [coll] at h
  | j + 1, x, h => by
    simp only [coll, List.mem_append] at h
    rcases h with h | h
    · exact coll_mem L F K j x h
    · exact List.mem_of_mem_drop (List.mem_of_mem_take h)

/-- the contract of mergeRuns, at whatever row -/
def MergeOK : Prop := ∀ (g c1 cap : Nat) (D0 : Nat → Int × Int) (h0 : Nat → Value) (w : World), c1 + 1 ≤ cap → cap ≤ maxLen → c1 ≤ 100000000 → BlkAt g (cap * 2) h0 w →
  (∀ t, t < c1 + 1 → h0 (t * 2) = .int .i32 (D0 t).1 ∧ h0 (t * 2 + 1) = .int .i32 (D0 t).2) → (∀ t, t < c1 + 1 → 0 ≤ (D0 t).1 ∧ (D0 t).1 ≤ (D0 t).2 ∧ (D0 t).2 ≤ 71) →
  Calls Yba.prog 17 #[.slice (some ⟨g, 0, none⟩) (c1 + 1) cap] w (MergePost g (c1 + 1) cap D0 w)

/-- where the runs lie -/
def RunsAt (ra : Option Addr) (n c : Nat) (L : List (Int × Int)) (w : World) : Prop :=
  (ra = none ∧ n = 0 ∧ c = 0) ∨ ∃ g, ra = some ⟨g, 0, none⟩ ∧ ∀ t x, L[t]? = some x → w.cell? ⟨g, t * 2, none⟩ = some (.int .i32 x.1) ∧ w.cell? ⟨g, t * 2 + 1, none⟩ = some (.int .i32 x.2)

/-- a part of the runs: a slice of cells -/
theorem seg_at {ra : Option Addr} {n c f0 f1 : Nat} {L : List (Int × Int)} {w : World} (h : RunsAt ra n c L w) (hl : L.length = n) (hnc : n ≤ c) (h01 : f0 ≤ f1) (h1n : f1 ≤ n) :
    (segV ra c f0 f1 = .slice none 0 0 ∧ (L.drop f0).take (f1 - f0) = []) ∨
    ∃ ad cc, segV ra c f0 f1 = .slice (some ad) (f1 - f0) cc ∧ ((L.drop f0).take (f1 - f0)).length = f1 - f0 ∧ ∀ j u, (flat ((L.drop f0).take (f1 - f0)))[j]? = some u → w.cell? (ad.add j) = some u := by
  rcases h with ⟨rfl, rfl, rfl⟩ | ⟨g, rfl, hg⟩
  · obtain rfl : f1 = 0 := by omega
    obtain rfl : f0 = 0 := by omega
    exact .inl ⟨by simp [segV], by simp⟩
  · refine .inr ⟨if c = f0 then ⟨g, 0, none⟩ else ⟨g, f0 * 2, none⟩, c - f0, ?_, by simp; omega, fun j u hu => ?_⟩
    · unfold segV
      split
      · rfl
      · simp [Go.WideShapes.add_plain]
    · obtain ⟨t, x, ht, hx⟩ := flat_get' _ j u hu
      have htl := (List.getElem?_eq_some_iff.1 ht).1
      simp only [List.length_take, List.length_drop] at htl
      rw [List.getElem?_take_of_lt (by omega), List.getElem?_drop] at ht
      have hc := hg (f0 + t) x ht
      rw [if_neg (by omega), Go.WideShapes.add_plain]
      rcases hx with ⟨rfl, rfl⟩ | ⟨rfl, rfl⟩
      · rw [show f0 * 2 + t * 2 = (f0 + t) * 2 by omega]; exact hc.1
      · rw [show f0 * 2 + (t * 2 + 1) = (f0 + t) * 2 + 1 by omega]; exact hc.2

theorem RunsAt.below {ra : Option Addr} {n c : Nat} {L : List (Int × Int)} {w w' : World} (h : RunsAt ra n c L w) (hb : Below w.heap.size w w') : RunsAt ra n c L w' := by
  rcases h with h | ⟨g, e, hg⟩
  · exact .inl h
  · refine .inr ⟨g, e, fun t x ht => ?_⟩
    obtain ⟨h1, h2⟩ := hg t x ht
    exact ⟨(hb.cell (p := ⟨g, t * 2, none⟩) (block_lt_of_cell h1)).trans h1, (hb.cell (p := ⟨g, t * 2 + 1, none⟩) (block_lt_of_cell h2)).trans h2⟩

theorem own_blk {w : World} {B : Nat} {v : Value} {C : List (Int × Int)} (h : w.ownsRow B 57 2 v C.length (flat C)) (hC : 0 < C.length) :
    ∃ gg cap hh, v = .slice (some ⟨gg, 0, none⟩) C.length cap ∧ B ≤ gg ∧ C.length ≤ cap ∧ cap ≤ maxLen ∧ BlkAt gg (cap * 2) hh w ∧ ∀ t, t < C.length → hh (t * 2) = .int .i32 (atL C t).1 ∧ hh (t * 2 + 1) = .int .i32 (atL C t).2 := by
  rcases h.2 with ⟨_, h0⟩ | ⟨g, cap, cur, rfl, h1, h2, h3, h4, h5, h6⟩
  · omega
  · refine ⟨g, cap, fun t => cur[t]?.getD (.bool false), rfl, h1, h3, h4, ⟨cur, h2, h5, fun t ht => ?_⟩, fun t ht => ?_⟩
    · simp [Array.getElem?_eq_getElem (show t < cur.size by omega)]
    · have hx : C[t]? = some (atL C t) := by simp only [atL, List.getElem?_eq_getElem ht, Option.getD_some]
      obtain ⟨e0, e1⟩ := flat_get C t _ hx
      rw [← h6, List.getElem?_take_of_lt (by omega), Array.getElem?_toList] at e0 e1
      simp only [e0, e1, Option.getD_some]
      exact ⟨trivial, trivial⟩

theorem own_ne2 {B b n : Nat} {e : TypeId} {sz : Nat} {u : Value} {xs : List Value} {w : World} {T : TypeId} {cs : Array Value} (h : w.ownsRow B e sz u n xs) (hb : w.heap[b]? = some (.cells cs T (0, 0))) (hT : T ≠ e) : u.ownBlock ≠ some b := by
  rcases h.2 with ⟨rfl, _⟩ | ⟨g, cap, cur, rfl, _, hg, _⟩
  · simp [Value.ownBlock]
  · intro e'
    simp only [Value.ownBlock, Option.some.injEq] at e'
    subst e'
    rw [hb] at hg
    simp at hg
    exact hT hg.2

theorem own_base {w : World} {B B' : Nat} {e : TypeId} {size : Nat} {v : Value} {n : Nat} {xs : List Value} (h : w.ownsRow B e size v n xs) (hB : B' ≤ B) : w.ownsRow B' e size v n xs := by
  refine ⟨h.1, ?_⟩
  rcases h.2 with h0 | ⟨g, cap, cur, rfl, h1, h2⟩
  · exact .inl h0
  · exact .inr ⟨g, cap, cur, rfl, Nat.le_trans hB h1, h2⟩

/-- what below leaves -/
def BelowPost (C : List (Int × Int)) (w : World) (e : Ending) (w' : World) : Prop :=
  Below w.heap.size w w' ∧ ((C = [] ∧ e = .returned (.slice none 0 0)) ∨ (C ≠ [] ∧ ∃ (v : Value) (gl : List Int), e = .returned v ∧ w'.ownsRow w.heap.size 21 1 v gl.length (gl.map (Value.int .i32)) ∧ gl.Pairwise (· < ·) ∧ (∀ x, x ∈ gl ↔ Cov C x) ∧ gl.length ≤ 72))

set_option maxHeartbeats 4000000 in
theorem below13 (MG : MergeOK) (bh fg m fc rg rn rc : Nat) (ra : Option Addr) (n c : Nat) (L : List (Int × Int)) (F K Bk : Nat → Nat) (w : World) (hl : L.length = n) (hn : n ≤ 20000) (hnc : n ≤ c) (hc : c ≤ maxLen) (hm : m ≤ 1000) (hrn : rn ≤ 1024)
    (hra : RunsAt ra n c L w) (hL : ∀ x ∈ L, 0 ≤ x.1 ∧ x.1 ≤ x.2 ∧ x.2 ≤ 71)
    (h0 : w.cell? ⟨bh, 0, none⟩ = some (.slice ra n c)) (h1 : w.cell? ⟨bh, 1, none⟩ = some (.slice (some ⟨fg, 0, none⟩) m fc))
    (hF : ∀ k, k < m → w.cell? ⟨fg, k, none⟩ = some (.int .i32 (F k : Int))) (hFm : ∀ k, k + 1 < m → F k ≤ F (k + 1) ∧ F (k + 1) ≤ n)
    (hK : ∀ j, j < rn → K j + 1 < m ∧ w.cell? ⟨rg, j, none⟩ = some (.pointer (some ⟨Bk j, 0, none⟩)) ∧ w.cell? ⟨Bk j, 9, none⟩ = some (.int .i64 (K j : Int))) :
    Calls Yba.prog 13 #[.pointer (some ⟨bh, 0, none⟩), .slice (some ⟨rg, 0, none⟩) rn rc] w (BelowPost (coll L F K rn) w) := by
  obtain ⟨i0, hi, hz0, hz1, hz2⟩ := info_parts info57
  have HRA := hid hra; have HL := hid hL; have H0 := hid h0; have H1 := hid h1; have HF := hid hF; have HFm := hid hFm; have HK := hid hK
  have HMG := hid MG; have Hc := hid hc
  have HLen := hid (coll_len L F K (by omega))
  clear hra hL h0 h1 hF hFm hK MG hc
  go_enter Yba.func13, Yba.ntmps13
  go_wp2
  go_loopw [5, 14] (fun u i wr => ∃ j : Nat, j ≤ rn ∧ i = .int .i64 j ∧ Below w.heap.size w wr ∧ wr.ownsRow w.heap.size 57 2 u (coll L F K j).length (flat (coll L F K j))) (fun _ i _ => rn - (intOf i).toNat)
  case atStart => exact ⟨0, by omega, rfl, Below.refl _ _, World.ownsRow_nil _ _ _ _⟩
  case round =>
    obtain ⟨j, hj, rfl, hB, hO⟩ := hrel
    have HB := hid hB; have HO := hid hO
    by_cases hjn : j < rn
    · have hji : (j : Int) < (rn : Int) := by omega
      obtain ⟨k1, k2, k3⟩ := HK.out j hjn
      have hr1 := (hB.cell (p := ⟨rg, j, none⟩) (block_lt_of_cell k2)).trans k2
      have hr2 := (hB.cell (p := ⟨Bk j, 9, none⟩) (block_lt_of_cell k3)).trans k3
      have c0 := H0.out; have c1 := H1.out; have c2 := HF.out (K j) (by omega); have c3 := HF.out (K j + 1) k1
      have hfm := HFm.out (K j) k1
      have hcall := runsOf16 bh ra n c fg m fc (K j) (F (K j)) (F (K j + 1)) wr (by omega) hm (by omega) hfm.1 hfm.2 hnc Hc.out ((hB.cell (p := ⟨bh, 0, none⟩) (block_lt_of_cell c0)).trans c0) ((hB.cell (p := ⟨bh, 1, none⟩) (block_lt_of_cell c1)).trans c1)
        ((hB.cell (p := ⟨fg, K j, none⟩) (block_lt_of_cell c2)).trans c2) ((hB.cell (p := ⟨fg, K j + 1, none⟩) (block_lt_of_cell c3)).trans c3)
      have hseg := seg_at HRA.out hl hnc hfm.1 hfm.2
      have hlen := HLen.out j
      have hs : (coll L F K j ++ (L.drop (F (K j))).take (F (K j + 1) - F (K j))) = coll L F K (j + 1) := rfl
      have Hs := hid hs
      obtain ⟨ao, cp, rfl⟩ := own_slice' hO
      clear hB hO c0 c1 c2 c3 k2 k3 hs
      rcases hseg with ⟨e1, e2⟩ | ⟨ad, cc, e1, e2, e3⟩
      · rw [e1] at hcall
        have HC := hid hcall; have He2 := hid e2
        clear hcall e1 e2
        go_wp2_with fail
        refine HC.out.mono ?_
        rintro e w2 ⟨rfl, hb2⟩
        have hO2 := own_move' HO.out (fun g _ hg => hb2.block g hg)
        have HO2 := hid hO2; have HB2 := hid (HB.out.trans (hb2.mono HB.out.size))
        clear hO2 hb2
        go_wp2_with (at_builtin; refine wpList_append_own_none rfl _ _ 52 rfl w.heap.size 57 i0 2 Yba.underlying52 hi _ _ _ rfl HO2.out rfl ?_)
        go_wp2
        go_roundw
        case rel =>
          have h := HO2.out
          refine ⟨j + 1, by omega, by go_num, HB2.out, ?_⟩
          rw [← Hs.out, He2.out, List.append_nil]
          exact h
        case measure => simp [intOf]; omega
      · rw [e1] at hcall
        have HC := hid hcall; have He2 := hid e2
        have e3' : ∀ w2, Below wr.heap.size wr w2 → ∀ t u, (flat ((L.drop (F (K j))).take (F (K j + 1) - F (K j))))[t]? = some u → w2.cell? (ad.add t) = some u := fun w2 hb t u hu => by
          have h := e3 t u hu
          have hlt := block_lt_of_cell h
          have h4 := (HB.out.cell hlt).trans h
          exact (hb.cell (block_lt_of_cell h4)).trans h4
        have He3 := hid e3'
        clear hcall e1 e2 e3 e3'
        generalize hsg : (L.drop (F (K j))).take (F (K j + 1) - F (K j)) = sg at *
        generalize hmm : F (K j + 1) - F (K j) = mm at *
        have hmm2 : mm ≤ 20000 := by omega
        clear hsg hmm hfm
        go_wp2_with fail
        refine HC.out.mono ?_
        rintro e w2 ⟨rfl, hb2⟩
        have hO2 := own_move' HO.out (fun g _ hg => hb2.block g hg)
        have HO2 := hid hO2; have HB2 := hid (HB.out.trans (hb2.mono HB.out.size)); have HN := hid (He3.out w2 hb2)
        have hsz := (HB.out.trans (hb2.mono HB.out.size)).size
        clear hO2 hb2
        go_wp2_with (at_builtin; refine wpList_append_own _ rfl _ _ 52 rfl w.heap.size 57 i0 _ 2 8 Yba.underlying52 hi hz0 hz1 hz2 rfl (by decide) _ _ _ rfl HO2.out ad mm cc (flat sg) rfl ?c0 HN.out (flat_one sg) ?c3 ?c4 ?c5 ?_)
        case c0 => rw [flat_len, He2.out]
        case c3 => unfold maxLen; omega
        case c4 => omega
        case c5 => exact hsz
        intro v' w3 ho3 hg3 _
        have hb3 : Below w.heap.size w w3 := HB2.out.trans ⟨hg3.os, hg3.tape, hg3.output, hg3.size, fun k hk => hg3.block k (by omega) (fun e => by have := (World.ownsRow.lt HO2.out k e.symm).1; omega)⟩
        have Hb3 := hid hb3; have Ho3 := hid ho3
        clear hb3 ho3 hg3
        go_wp2
        go_roundw
        case rel =>
          refine ⟨j + 1, by omega, by go_num, Hb3.out, ?_⟩
          have h := Ho3.out
          rw [← Hs.out, List.length_append, flat_append, He2.out]
          exact h
        case measure => simp [intOf]; omega
    · have hji : (rn : Int) ≤ (j : Int) := by omega
      obtain rfl : j = rn := by omega
      have hlen := HLen.out j
      have hmem := coll_mem L F K j
      have Hmem := hid hmem
      generalize coll L F K j = C at *
      clear hB hO hmem H0 H1 HF HFm HK HRA
      cases hC : C with
      | nil =>
        subst hC
        obtain ⟨ao, cp, rfl⟩ := own_slice' HO.out
        go_wp2
        go_ret
        exact ⟨HB.out, .inl ⟨rfl, rfl⟩⟩
      | cons x0 C1 =>
        have hc1 : C.length = C1.length + 1 := by rw [hC]; rfl
        have hCne : C ≠ [] := by rw [hC]; exact List.cons_ne_nil _ _
        have HCne := hid hCne
        obtain ⟨gg, cap, hh, rfl, hgg, hcc, hcm, hBlk, hcells⟩ := own_blk HO.out (by omega)
        have hrange : ∀ t, t < C1.length + 1 → 0 ≤ (atL C t).1 ∧ (atL C t).1 ≤ (atL C t).2 ∧ (atL C t).2 ≤ 71 := fun t ht => by
          have htl : t < C.length := by omega
          simp only [atL, List.getElem?_eq_getElem htl, Option.getD_some]
          exact HL.out _ (Hmem.out _ (List.getElem_mem htl))
        rw [hc1] at hcc hcells hlen HO
        have hcov := cov_atL C
        rw [hc1] at hcov
        have Hcov := hid hcov
        have hmg := HMG.out gg C1.length cap (atL C) hh wr hcc hcm (by omega) hBlk hcells hrange
        rw [hc1]
        generalize C1.length = c1 at *
        have Hmg := hid hmg
        have HBlk := hid hBlk
        clear hmg hBlk hcells hrange hC hc1 hcov hCne HMG Hmem HL HO
        go_wp2_with fail
        refine Hmg.out.mono ?_
        rintro e w5 ⟨p, f, h5, rfl, hp, hasc, hcv, hblk5, hcell5, hfr5⟩
        have hb5 : Below w.heap.size w w5 := HB.out.trans (hfr5.below HB.out.size hgg hgg (fun k hk => by cases hk))
        have HAsc := hid hasc; have Hcv := hid hcv; have Hblk5 := hid hblk5; have Hcell5 := hid hcell5; have Hb5 := hid hb5
        have hs5 := hb5.size
        obtain ⟨i1, hi1, hy0, hy1, hy2⟩ := info_parts info21
        clear hasc hcv hblk5 hcell5 hfr5 hb5 HBlk Hmg HB
        go_wp2
        go_loopw [8, 33] (fun u i wq => ∃ (a : Nat) (gl : List Int), a ≤ p + 1 ∧ i = .int .i64 a ∧ Below w5.heap.size w5 wq ∧ R2 f (p + 1) a gl ∧ wq.ownsRow w5.heap.size 21 1 u gl.length (gl.map (Value.int .i32))) (fun _ i _ => p + 1 - (intOf i).toNat)
        case atStart => exact ⟨0, [], by omega, rfl, Below.refl _ _, r2_start f (p + 1) HAsc.out, World.ownsRow_nil _ _ _ _⟩
        case round =>
          generalize wr = wq at *
          obtain ⟨a, gl, ha, rfl, hB, hR, hO⟩ := hrel
          have hR3 := hR.2.2.1
          have HB := hid hB; have HO := hid hO; have HR := hid hR
          obtain ⟨ao, cp, rfl⟩ := own_slice' hO
          by_cases han : a < p + 1
          · have hai : (a : Int) < (p : Int) + 1 := by omega
            have hcell := Hcell5.out a (by omega)
            have hblk := Hblk5.out.move (hB.block gg Hblk5.out.lt)
            have hx0 := hblk.cell (a * 2) (by omega)
            have hx1 := hblk.cell (a * 2 + 1) (by omega)
            rw [hcell.1] at hx0; rw [hcell.2] at hx1
            have hrg := HAsc.out.1 a han
            have hR0 := rinv_start HAsc.out hR han
            have HR0 := hid hR0
            have hEnd := fun (k : Int) (gl : List Int) (h : RInv f a k gl) (hk : k = (f a).2 + 1) => rinv_end HAsc.out h han hk
            have HEnd := hid hEnd
            have HStep := hid (fun (k : Int) (gl : List Int) (h : RInv f a k gl) (hk : (f a).1 ≤ k) => rinv_step h hk)
            obtain ⟨X0, hX0⟩ : ∃ x, (f a).1 = x := ⟨_, rfl⟩
            obtain ⟨X1, hX1⟩ : ∃ x, (f a).2 = x := ⟨_, rfl⟩
            rw [hX0] at hx0 hrg HR0 HStep
            rw [hX1] at hx1 hrg HEnd
            have hszq := hB.size
            clear hB hR hO hcell hblk hR0 hEnd hX0 hX1
            go_wp2
            have hbA : Below w5.heap.size w5 (wq.alloc (.cells #[.int .i32 X0, .int .i32 X1] 57)) := HB.out.alloc hszq _
            have hoA := HO.out.alloc (.cells #[.int .i32 X0, .int .i32 X1] 57)
            have hnew := heap_alloc_new wq (.cells #[.int .i32 X0, .int .i32 X1] 57)
            generalize hA : wq.alloc (.cells #[.int .i32 X0, .int .i32 X1] 57) = A at *
            have hAs : A.heap.size = wq.heap.size + 1 := by rw [← hA]; simp
            have HbA := hid hbA; have HoA := hid hoA; have Hnew := hid hnew
            clear hbA hoA hnew hA HB HO HR
            go_loopw [8, 11] (fun u k wz => ∃ (kk : Int) (gl : List Int), X0 ≤ kk ∧ kk ≤ X1 + 1 ∧ k = .int .i32 kk ∧ Below w5.heap.size w5 wz ∧ wz.heap[wq.heap.size]? = some (.cells #[.int .i32 X0, .int .i32 X1] 57 (0, 0)) ∧ A.heap.size ≤ wz.heap.size ∧ RInv f a kk gl ∧ wz.ownsRow w5.heap.size 21 1 u gl.length (gl.map (Value.int .i32))) (fun _ k _ => (X1 + 1 - intOf k).toNat)
            case atStart => exact ⟨X0, gl, Int.le_refl _, by omega, rfl, HbA.out, Hnew.out, Nat.le_refl _, HR0.out, HoA.out⟩
            case round =>
              obtain ⟨kk, gl2, hk0, hk1, rfl, hB2, hN2, hS2, hR2, hO2⟩ := hrel
              have r_0 : wr.cell? ⟨wq.heap.size, 0, none⟩ = some (.int .i32 X0) := by rw [cell_of hN2]; rfl
              have r_1 : wr.cell? ⟨wq.heap.size, 1, none⟩ = some (.int .i32 X1) := by rw [cell_of hN2]; rfl
              have hlt := hR2.2.2.2
              have HB2 := hid hB2; have HN2 := hid hN2; have HR2 := hid hR2; have HO2 := hid hO2
              obtain ⟨ao2, cp2, rfl⟩ := own_slice' hO2
              have hsw := hB2.size
              clear hB2 hN2 hR2 hO2
              by_cases hkn : kk ≤ X1
              · go_wp2_with (at_builtin; refine wpList_append_own _ rfl _ _ 53 rfl w5.heap.size 21 i1 _ 1 4 Yba.underlying53 hi1 hy0 hy1 hy2 rfl (by decide) _ _ _ rfl (HO2.out.alloc _) ⟨wr.heap.size, 0, none⟩ 1 1 [.int .i32 kk] rfl rfl ?c1 ?c2 ?c3 ?c4 ?c5 ?_)
                case c1 =>
                  intro t u ht
                  rw [Go.WideShapes.add_plain, Nat.zero_add, cell_of (heap_alloc_new wr (.cells #[.int .i32 kk] 21))]
                  simpa using ht
                case c2 => simp [Value.oneCell']
                case c3 => unfold maxLen; omega
                case c4 => omega
                case c5 => simp; omega
                intro v3 w3 ho3 hg3 _
                have hb3 : Below w5.heap.size w5 w3 := HB2.out.trans ⟨hg3.os, hg3.tape, hg3.output, by have := hg3.size; simp at this; omega, fun k hk => (hg3.block k (by simp; omega) (fun e => by have := (World.ownsRow.lt HO2.out k e.symm).1; omega)).trans (Below.heap_alloc _ _ _ (by omega))⟩
                have hn3 : w3.heap[wq.heap.size]? = some (.cells #[.int .i32 X0, .int .i32 X1] 57 (0, 0)) := by
                  refine (hg3.block _ (by simp; omega) (fun e => ?_)).trans ((Below.heap_alloc _ _ _ (by omega)).trans HN2.out)
                  exact own_ne2 HO2.out HN2.out (by decide) e.symm
                have hs3 : A.heap.size ≤ w3.heap.size := by have := hg3.size; simp at this; omega
                have Hb3 := hid hb3; have Hn3 := hid hn3; have Ho3 := hid ho3
                clear hb3 hn3 ho3 hg3
                go_wp2
                go_roundw
                case rel =>
                  refine ⟨kk + 1, gl2 ++ [kk], by omega, by omega, by go_num, Hb3.out, Hn3.out, hs3, HStep.out _ _ HR2.out hk0, ?_⟩
                  have h := Ho3.out
                  rw [List.length_append, List.map_append]
                  exact h
                case measure => simp [intOf]; omega
              · have hke : kk = X1 + 1 := by omega
                go_wp2
                go_roundw
                case rel => exact ⟨a + 1, gl2, by omega, by go_num, HB2.out, HEnd.out _ _ HR2.out hke, HO2.out⟩
                case measure => simp [intOf]; omega
          · have hai : (p : Int) + 1 ≤ (a : Int) := by omega
            obtain rfl : a = p + 1 := by omega
            clear hB hR hO
            go_wp2
            go_ret
            refine ⟨Hb5.out.trans (HB.out.mono hs5), .inr ⟨?_, _, gl, rfl, ?_, HR.out.1, fun x => ?_, hR3⟩⟩
            · exact HCne.out
            · exact own_base HO.out hs5
            · exact (HR.out.2.1 x).trans ((Hcv.out x).trans (Hcov.out x))
end Go.Proofs.Ybulkchvi
