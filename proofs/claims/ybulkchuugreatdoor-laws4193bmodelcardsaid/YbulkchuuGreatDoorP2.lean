import Derived.Test.YbulkchuuGreatDoorP1
import Derived.StillTailTactics
import Derived.Deep.Cut
import Derived.Deep.CutRange
namespace Go.Proofs.YbulkchuuGreatDoor
open Go.RowKit
open Go.Sort (PermIn)
set_option linter.unusedVariables false
set_option linter.unusedSimpArgs false
set_option maxRecDepth 100000

/-! ### what is reached, plainly -/
theorem addL_mem : ∀ (xs gl : List Int) (x : Int), x ∈ addL gl xs ↔ x ∈ gl ∨ x ∈ xs
  | [], gl, x => by simp [addL]
  | y :: xs, gl, x => by
    rw [addL, addL_mem xs]
    by_cases h : y ∈ gl
    · rw [if_pos h]
      simp only [List.mem_cons]
      constructor
      · rintro (h1 | h1)
        · exact .inl h1
        · exact .inr (.inr h1)
      · rintro (h1 | h1 | h1)
        · exact .inl h1
        · subst h1; exact .inl h
        · exact .inr h1
    · rw [if_neg h]
      simp [or_assoc]
theorem addL_prefix : ∀ (xs gl : List Int), ∃ t, addL gl xs = gl ++ t
  | [], gl => ⟨[], by simp [addL]⟩
  | y :: xs, gl => by
    rw [addL]
    by_cases h : y ∈ gl
    · rw [if_pos h]; exact addL_prefix xs gl
    · rw [if_neg h]
      obtain ⟨t, ht⟩ := addL_prefix xs (gl ++ [y])
      exact ⟨y :: t, by rw [ht]; simp⟩
/-- the groups that are reached: what lies in every set that holds the listed ones and is closed -/
def Rch (lst : List Int) (W : Nat → List Int) (x : Int) : Prop := ∀ p : Int → Prop, (∀ y, y ∈ lst → p y) → (∀ g y, p g → y ∈ W g.toNat → p y) → p x
theorem Rch.base {lst : List Int} {W : Nat → List Int} (x : Int) (h : x ∈ lst) : Rch lst W x := fun _ h0 _ => h0 x h
theorem Rch.step {lst : List Int} {W : Nat → List Int} (g h : Int) (hg : Rch lst W g) (hh : h ∈ W g.toNat) : Rch lst W h := fun p h0 h1 => h1 g h (hg p h0 h1) hh
def BF (lst : List Int) (W : Nat → List Int) (i : Nat) (gk : List Int) : Prop :=
  (∀ x ∈ lst, x ∈ gk) ∧ (∀ x ∈ gk, Rch lst W x) ∧ ∀ t g, t < i → gk[t]? = some g → ∀ h ∈ W g.toNat, h ∈ gk
theorem BF.step {lst : List Int} {W : Nat → List Int} {i : Nat} {gk : List Int} {g : Int} (h : BF lst W i gk) (hg : gk[i]? = some g) : BF lst W (i + 1) (addL gk (W g.toNat)) := by
  obtain ⟨h1, h2, h3⟩ := h
  obtain ⟨t, ht⟩ := addL_prefix (W g.toNat) gk
  refine ⟨fun x hx => (addL_mem _ _ _).2 (.inl (h1 x hx)), fun x hx => ?_, fun u g' hu hg' x hx => ?_⟩
  · rcases (addL_mem _ _ _).1 hx with hx | hx
    · exact h2 x hx
    · exact .step g x (h2 g (List.mem_of_getElem? hg)) hx
  · have hlt : i < gk.length := (List.getElem?_eq_some_iff.1 hg).1
    rw [ht, List.getElem?_append_left (by omega)] at hg'
    rw [addL_mem]
    by_cases e : u = i
    · subst e
      rw [hg] at hg'
      simp at hg'
      subst hg'
      exact .inr hx
    · exact .inl (h3 u g' (by omega) hg' x hx)
theorem BF.done {lst : List Int} {W : Nat → List Int} {gk : List Int} (h : BF lst W gk.length gk) (x : Int) : x ∈ gk ↔ Rch lst W x := by
  refine ⟨h.2.1 x, fun hr => ?_⟩
  refine hr (fun y => y ∈ gk) h.1 (fun g y ih hy => ?_)
  obtain ⟨t, ht, e⟩ := List.getElem_of_mem ih
  exact h.2.2 t g ht (by rw [List.getElem?_eq_getElem ht, e]) y hy

/-- the groups that a file nests -/
def WithinAt (Bd fb n : Nat) (W : Nat → List Int) (w : World) : Prop := fb < Bd ∧ ∃ wa wc, w.cell? ⟨fb, 6, none⟩ = some (.slice wa n wc) ∧
  ∀ g, g < n → ∃ wb woff A C, wa = some ⟨wb, woff, none⟩ ∧ wb < Bd ∧ w.cell? ⟨wb, woff + g, none⟩ = some (.slice A (W g).length C) ∧ ReadI Bd A (W g) w ∧ InG n (W g) ∧ (W g).length ≤ 1000
theorem WithinAt.below {Bd fb n : Nat} {W : Nat → List Int} {w w' : World} (h : WithinAt Bd fb n W w) (hb : Below Bd w w') : WithinAt Bd fb n W w' := by
  obtain ⟨h0, wa, wc, h1, h2⟩ := h
  refine ⟨h0, wa, wc, (hb.cell (p := ⟨fb, 6, none⟩) h0).trans h1, fun g hg => ?_⟩
  obtain ⟨wb, woff, A, C, e, k1, k2, k3, k4, k5⟩ := h2 g hg
  exact ⟨wb, woff, A, C, e, k1, (hb.cell (p := ⟨wb, woff + g, none⟩) k1).trans k2, k3.below hb, k4, k5⟩
/-- seen between the calls: none, or all clear -/
def Clear (Bd : Nat) (se : Value) (w : World) : Prop := se = .slice none 0 0 ∨ ∃ sb sl sc, se = .slice (some ⟨sb, 0, none⟩) sl sc ∧ Bd ≤ sb ∧ SeenAt sb sl (fun _ => 0) w
theorem own_cut0 {w : World} {B : Nat} {ao : Option Addr} {n c : Nat} {xs : List Value} (h : w.ownsRow B 21 1 (.slice ao n c) n xs) : w.ownsRow B 21 1 (.slice ao 0 c) 0 [] := by
  rcases h.2 with ⟨e, h0⟩ | ⟨g, cap, cur, e, h1, h2, h3, h4, h5, h6⟩
  · injection e with e1 e2 e3
    subst e1 e3
    exact World.ownsRow_nil _ _ _ _
  · injection e with e1 e2 e3
    subst e1 e3
    exact ⟨rfl, .inr ⟨g, c, cur, rfl, h1, h2, by omega, h4, h5, by simp⟩⟩
/-- a row of one's own, as the sort takes it -/
theorem own_R32 {w : World} {B : Nat} {v : Value} {gl : List Int} (h : w.ownsRow B 21 1 v gl.length (I32s gl)) (hne : 0 < gl.length) : ∃ g cap, v = .slice (some ⟨g, 0, none⟩) gl.length cap ∧ B ≤ g ∧ R32 g 0 gl.toArray w ∧
    ∀ (d' : Array Int) (w' : World), d'.size = gl.length → R32 g 0 d' w' → (∀ S, Fr S w w' → w'.ownsRow B 21 1 v d'.toList.length (I32s d'.toList)) := by
  rcases h.2 with ⟨e, h0⟩ | ⟨g, cap, cur, rfl, h1, h2, h3, h4, h5, h6⟩
  · omega
  · refine ⟨g, cap, rfl, h1, ⟨cur, h2, by simp; omega, fun j hj => ?_⟩, fun d' w' hs hR S hc => ?_⟩
    · have hj' : j < gl.length := by simpa using hj
      have : (I32s gl)[j]? = some (.int .i32 gl[j]) := by simp [I32s, hj']
      rw [← h6, List.getElem?_take] at this
      rw [if_pos (by omega)] at this
      simpa [hj'] using this
    · obtain ⟨cur', hb', hcs⟩ := hc.row h2
      obtain ⟨cur2, hb2, hsz, hcell⟩ := hR
      rw [hb'] at hb2
      simp only [Option.some.injEq, Obj.cells.injEq, and_true] at hb2
      subst hb2
      refine ⟨by simp [I32s], .inr ⟨g, cap, cur', by simp [hs], h1, hb', by simp [hs]; exact h3, h4, by omega, ?_⟩⟩
      apply List.ext_getElem?
      intro j
      rw [List.getElem?_take]
      by_cases hj : j < d'.size
      · rw [if_pos (by simpa using hj)]
        have := hcell j hj
        rw [Nat.zero_add] at this
        rw [Array.getElem?_toList, this]
        simp [I32s, hj]
      · rw [if_neg (by simpa using hj), List.getElem?_eq_none (by simp [I32s]; omega)]

def PrB (pb : Nat) (nm ls mm gr wk se : Value) (w : World) : Prop := w.heap[pb]? = some (.cells #[nm, ls, mm, gr, wk, se] 109 (0, 0))
def WalkPost (Bd pb : Nat) (nm ls mm : Value) (lst : List Int) (W : Nat → List Int) (w : World) (e : Ending) (w' : World) : Prop :=
  e = .returned (.tuple #[]) ∧ ∃ gr se gl, PrB pb nm ls mm gr (.bool true) se w' ∧ w'.ownsRow Bd 21 1 gr gl.length (I32s gl) ∧ Clear Bd se w' ∧ gl.Pairwise (· < ·) ∧ (∀ x, x ∈ gl ↔ Rch lst W x) ∧ Below Bd w w'

theorem info32 : (Ybaz.prog.info? 32).map (fun i => (i.zero, i.size, i.bytes)) = some (some (.int .u64 0), 1, 8) := by kernel_rfl
theorem own_zero {w : World} {B g n : Nat} (h : w.ownsRow B 32 1 (.slice (some ⟨g, 0, none⟩) n n) n (madeCells #[.int .u64 0] n).toList) : SeenAt g n (fun _ => 0) w := by
  rcases h.2 with ⟨h, _⟩ | ⟨g', cap, cur, h, _, hg, _, _, hs, ht⟩
  · cases h
  · injection h with e1 e2 e3
    injection e1 with e1
    injection e1 with e1
    subst e1 e3
    refine ⟨cur, hg, by omega, fun k hk => ⟨?_, by simp⟩⟩
    have : (cur.toList.take (n * 1))[k]? = some (.int .u64 0) := by rw [ht]; simp [madeCells, hk, Nat.mod_one]
    rw [List.getElem?_take, if_pos (by omega)] at this
    simpa using this
set_option maxHeartbeats 8000000 in
theorem walkUp33 (Bd pb fb n : Nat) (nm ls gr0 wk se : Value) (k0 : Nat) (xs0 : List Value) (lsa : Option Addr) (lsc : Nat) (lst : List Int) (W : Nat → List Int) (w : World) (hpb : Bd ≤ pb) (hn : n ≤ 255) (hBw : Bd ≤ w.heap.size) (hls : ls = .slice lsa lst.length lsc)
    (hP : PrB pb nm ls (.pointer (some ⟨fb, 5, none⟩)) gr0 wk se w) (hO : w.ownsRow Bd 21 1 gr0 k0 xs0) (hC : Clear Bd se w)
    (hx : ReadI Bd lsa lst w) (hxr : InG n lst) (hxl : lst.length ≤ 1000) (hW : WithinAt Bd fb n W w) :
    Calls Ybaz.prog 33 #[.pointer (some ⟨pb, 0, none⟩)] w (WalkPost Bd pb nm ls (.pointer (some ⟨fb, 5, none⟩)) lst W w) := by
  subst hls
  obtain ⟨ao, cp, rfl⟩ := own_slice' hO
  have hO1 := own_cut0 hO
  have hown1 : ∀ (j : Nat) (v : Value), (w.setCell ⟨pb, j, none⟩ v).ownsRow Bd 21 1 (.slice ao 0 cp) 0 [] := fun j v => own_move hO1 (fun g' hg' _ => Below.heap_setCell _ _ _ _ (fun e => own_tag hO1 hP (by decide) (by rw [hg']; simp at e; rw [e])))
  have c0 : w.cell? ⟨pb, 1, none⟩ = some (.slice lsa lst.length lsc) := by rw [cell_of hP]; rfl
  have c2 : w.cell? ⟨pb, 2, none⟩ = some (.pointer (some ⟨fb, 5, none⟩)) := by rw [cell_of hP]; rfl
  have c3 : w.cell? ⟨pb, 3, none⟩ = some (.slice ao k0 cp) := by rw [cell_of hP]; rfl
  have c4 : w.cell? ⟨pb, 4, none⟩ = some wk := by rw [cell_of hP]; rfl
  have c5 : w.cell? ⟨pb, 5, none⟩ = some se := by rw [cell_of hP]; rfl
  have f3 := frozen_of hP 3; have f4 := frozen_of hP 4; have f5 := frozen_of hP 5
  have hP1 : PrB pb nm (.slice lsa lst.length lsc) (.pointer (some ⟨fb, 5, none⟩)) (.slice ao 0 cp) (.bool true) se ((w.setCell ⟨pb, 3, none⟩ (.slice ao 0 cp)).setCell ⟨pb, 4, none⟩ (.bool true)) := by
    unfold PrB
    rw [heap_set (heap_set hP 3 _) 4 _]; rfl
  have hB1 : Below Bd w ((w.setCell ⟨pb, 3, none⟩ (.slice ao 0 cp)).setCell ⟨pb, 4, none⟩ (.bool true)) := ((Below.refl _ w).setCell hpb _).setCell hpb _
  have hO2 : ((w.setCell ⟨pb, 3, none⟩ (.slice ao 0 cp)).setCell ⟨pb, 4, none⟩ (.bool true)).ownsRow Bd 21 1 (.slice ao 0 cp) 0 [] := own_move (own_move hO1 (fun g' hg' _ => Below.heap_setCell _ _ _ _ (fun e => own_tag hO1 hP (by decide) (by rw [hg']; simp at e; rw [e])))) (fun g' hg' _ => Below.heap_setCell _ _ _ _ (fun e => own_tag hO1 hP (by decide) (by rw [hg']; simp at e; rw [e])))
  have hC1 : Clear Bd se ((w.setCell ⟨pb, 3, none⟩ (.slice ao 0 cp)).setCell ⟨pb, 4, none⟩ (.bool true)) := by
    rcases hC with h | ⟨sb, sl, sc, e, h1, h2⟩
    · exact .inl h
    · refine .inr ⟨sb, sl, sc, e, h1, h2.move ?_⟩
      have hne : sb ≠ pb := fun e => by
        obtain ⟨cur, k1, _⟩ := h2
        rw [e] at k1
        unfold PrB at hP
        rw [k1] at hP
        simp at hP
      rw [Below.heap_setCell _ _ _ _ (by simpa using hne), Below.heap_setCell _ _ _ _ (by simpa using hne)]
  have HP1 := hid hP1; have HB1 := hid hB1; have HO2 := hid hO2; have HC1 := hid hC1; have HX := hid hx; have HXr := hid hxr; have HW := hid hW
  obtain ⟨N, hN⟩ : ∃ N, lst.length = N := ⟨_, rfl⟩
  have HN := hid hN
  rw [hN] at c0 HP1 hxl ⊢
  clear hP hO hC hx hxr hW hP1 hB1 hO2 hC1 hO1 hown1 hN
  obtain ⟨i32, hi32, hz0, hz1, hz2⟩ := info_parts info32
  go_enter Ybaz.func33, Ybaz.ntmps33
  by_cases h0 : N = 0
  · subst h0
    go_wp2
    (try simp only [Exit.inBlock, Exit.then]); refine bodyPost_ret (results_none rfl _ _ _) rfl ?_
    have hl : lst = [] := List.length_eq_zero_iff.1 HN.out
    subst hl
    refine ⟨rfl, _, se, [], HP1.out, HO2.out, HC1.out, List.Pairwise.nil, fun x => ⟨fun h => by simp at h, fun h => ?_⟩, HB1.out⟩
    refine h (fun y => y ∈ ([] : List Int)) (fun y hy => hy) (fun g y ih hy => ?_)
    simp at ih
  · have h0i : ((N : Int) == 0) = false := by simp; omega
    have hn1 : 0 < n := by
      obtain ⟨x, hx⟩ := List.exists_mem_of_length_pos (l := lst) (by rw [HN.out]; omega)
      have := HXr.out x hx
      omega
    obtain ⟨wd, hwd⟩ : ∃ wd, (n + 63) / 64 = wd := ⟨_, rfl⟩
    have hwdi : (((n : Int) + 63) / 64) = (wd : Int) := by omega
    have hwd1 : n ≤ 64 * wd ∧ wd ≤ 4 ∧ 0 < wd := by omega
    clear hwd
    go_upto_region 2 with fail
    generalize (w.setCell ⟨pb, 3, none⟩ (.slice ao 0 cp)).setCell ⟨pb, 4, none⟩ (.bool true) = W1 at *
    clear c0 c2 c3 c4 c5 f3 f4 f5
    have hW1 := HW.out.below HB1.out
    obtain ⟨hfb, wa, wcap, hwcap, _⟩ := hW1
    have d1 : W1.cell? ⟨pb, 1, none⟩ = some (.slice lsa N lsc) := by rw [cell_of HP1.out]; rfl
    have d2 : W1.cell? ⟨pb, 2, none⟩ = some (.pointer (some ⟨fb, 5, none⟩)) := by rw [cell_of HP1.out]; rfl
    have d3 : W1.cell? ⟨pb, 3, none⟩ = some (.slice ao 0 cp) := by rw [cell_of HP1.out]; rfl
    have d5 : W1.cell? ⟨pb, 5, none⟩ = some se := by rw [cell_of HP1.out]; rfl
    have f5 := frozen_of HP1.out 5
    have hszw := HB1.out.size
    -- seen is made where it is too short
    have hcut0 : ∃ so sl0 sc0, se = .slice so sl0 sc0 ∧ (so = none ∧ sl0 = 0 ∨ ∃ sb, so = some ⟨sb, 0, none⟩ ∧ Bd ≤ sb ∧ SeenAt sb sl0 (fun _ => 0) W1) := by
      rcases HC1.out with h | ⟨sb, sl, sc, e, h1, h2⟩
      · exact ⟨none, 0, 0, h, .inl ⟨rfl, rfl⟩⟩
      · exact ⟨_, sl, sc, e, .inr ⟨sb, rfl, h1, h2⟩⟩
    obtain ⟨so, sl0, sc0, rfl, hso⟩ := hcut0
    have HSo := hid hso
    clear hso
    go_upto_if 39 with fail
    simp only [hwdi]
    go_cut [] from 38 to 44 (fun wx => ∃ (sb sl sc : Nat), Bd ≤ sb ∧ n ≤ 64 * sl ∧ Pr Bd pb sb sl n nm (.slice lsa N lsc) (.pointer (some ⟨fb, 5, none⟩)) (.bool true) (.slice ao 0 cp) sc (fun _ => 0) [] wx ∧ Below Bd w wx)
    case first =>
      by_cases hsl : sl0 < wd
      · have hsli : (sl0 : Int) < (wd : Int) := by omega
        go_wp2_with (at_make; refine wpList_make_full _ rfl _ _ 27 rfl W1.heap.size 32 i32 (.int .u64 0) 1 Ybaz.underlying27 hi32 hz0 hz1 _ _ _ _ wd rfl rfl rfl rfl ?b1 ?b2 ?b3 ?_)
        case b1 => first | omega | (rw [hz2]; omega)
        case b2 => unfold maxLen; omega
        case b3 => first | omega | simp
        intro w2 hown2 hg2
        have hlt := heap_lt HP1.out
        have hP2 : PrB pb nm (.slice lsa N lsc) (.pointer (some ⟨fb, 5, none⟩)) (.slice ao 0 cp) (.bool true) (.slice so sl0 sc0) w2 := (hg2.block pb hlt (by simp)).trans HP1.out
        have e5 : w2.cell? ⟨pb, 5, none⟩ = some (.slice so sl0 sc0) := by rw [cell_of hP2]; rfl
        have e5f := frozen_of hP2 5
        have hS2 : SeenAt W1.heap.size wd (fun _ => 0) w2 := own_zero hown2
        have hO3 := own_move HO2.out (fun g' _ hg' => hg2.block g' hg' (by simp))
        have hB2 : Below Bd w w2 := HB1.out.trans ⟨hg2.os, hg2.tape, hg2.output, hg2.size, fun k hk => hg2.block k (by omega) (by simp)⟩
        have HP2 := hid hP2; have HS2 := hid hS2; have HO3 := hid hO3; have HB2 := hid hB2
        clear hown2 hg2 hP2 hS2 hO3 hB2
        go_wp2_with fail
        go_meet
        case rel =>
          have hne : W1.heap.size ≠ pb := by omega
          refine ⟨W1.heap.size, wd, wd, by omega, by omega, ⟨?_, HS2.out.move (Below.heap_setCell _ _ _ _ (by simpa using hne)), ?_, fun g hg => by simp, List.Pairwise.nil, fun x hx => by simp at hx⟩, HB2.out.setCell hpb _⟩
          · rw [heap_set HP2.out 5 _]; rfl
          · exact own_move HO3.out (fun g' hg' _ => Below.heap_setCell _ _ _ _ (fun e => own_tag HO3.out HP2.out (by decide) (by rw [hg']; simp at e; rw [e])))
      · have hsli : ¬ (sl0 : Int) < (wd : Int) := by omega
        go_wp2_with fail
        go_meet
        case rel =>
          rcases HSo.out with ⟨rfl, rfl⟩ | ⟨sb, rfl, h1, h2⟩
          · omega
          · refine ⟨sb, sl0, sc0, h1, by omega, ⟨HP1.out, h2, HO2.out, fun g hg => by simp, List.Pairwise.nil, fun x hx => by simp at hx⟩, HB1.out⟩
    case rest =>
      obtain ⟨sb, sl, sc, hsb, hsl, hPr, hBx⟩ := hcut
      generalize hwx : wc = wx at *
      clear hwx
      have c0 : wx.cell? ⟨pb, 1, none⟩ = some (.slice lsa N lsc) := by rw [cell_of hPr.blk]; rfl
      have hadd := add77 Bd pb sb sl sc n nm (.slice lsa N lsc) (.pointer (some ⟨fb, 5, none⟩)) (.bool true) (.slice ao 0 cp) (fun _ => 0) [] lsa lsc lst wx hpb hsb hsl hn (Nat.le_trans hBw hBx.size) hPr (HX.out.below hBx) HXr.out (by rw [HN.out]; exact hxl)
      rw [HN.out] at hadd
      have HAdd := hid hadd; have HBx := hid hBx
      clear hadd hPr hBx d1 d2 d3 d5 f5 hwcap HP1 HB1 HO2 HC1 HSo
      go_wp2_with fail
      refine HAdd.out.mono ?_
      rintro e w2 ⟨rfl, gr2, X2, hP2, hB2⟩
      have HP2 := hid hP2; have HB2 := hid (HBx.out.trans hB2)
      clear hP2 hB2 HAdd HBx
      go_wp2
      go_loopw [3] (fun vi wr => ∃ (i : Nat) (gr : Value) (X : Nat → Nat) (gk : List Int), vi = .int .i64 i ∧ i ≤ gk.length ∧ Pr Bd pb sb sl n nm (.slice lsa N lsc) (.pointer (some ⟨fb, 5, none⟩)) (.bool true) gr sc X gk wr ∧ Below Bd w wr ∧ BF lst W i gk) (fun vi _ => n - (intOf vi).toNat)
      case atStart =>
        refine ⟨0, gr2, X2, addL [] lst, rfl, by omega, HP2.out, HB2.out, fun x hx => (addL_mem _ _ _).2 (.inr hx), fun x hx => ?_, fun t g ht => by omega⟩
        rcases (addL_mem _ _ _).1 hx with h | h
        · simp at h
        · exact .base x h
      case round =>
        generalize wr = wq at *
        obtain ⟨i, gr, X, gk, rfl, hi, hP, hB, hF⟩ := hrel
        have hlen := pigeon n gk hP.nodup hP.rng
        obtain ⟨ga, gc, rfl⟩ := own_slice' hP.own
        have e2 : wq.cell? ⟨pb, 2, none⟩ = some (.pointer (some ⟨fb, 5, none⟩)) := by rw [cell_of hP.blk]; rfl
        have e3 : wq.cell? ⟨pb, 3, none⟩ = some (.slice ga gk.length gc) := by rw [cell_of hP.blk]; rfl
        have e5 : wq.cell? ⟨pb, 5, none⟩ = some (.slice (some ⟨sb, 0, none⟩) sl sc) := by rw [cell_of hP.blk]; rfl
        have HP := hid hP; have HB := hid hB; have HF := hid hF
        by_cases hin : i < gk.length
        · have hini : (i : Int) < (gk.length : Int) := by omega
          obtain ⟨x, hx⟩ : ∃ x, gk[i]? = some x := ⟨_, List.getElem?_eq_getElem hin⟩
          have hxr := hP.rng x (List.mem_of_getElem? hx)
          obtain ⟨g, rfl⟩ : ∃ g : Nat, x = (g : Int) := ⟨x.toNat, by omega⟩
          have hgn : g < n := by omega
          obtain ⟨gg, hga, hgc⟩ : ∃ gg, ga = some ⟨gg, 0, none⟩ ∧ wq.cell? ⟨gg, i, none⟩ = some (.int .i32 g) := by
            rcases hP.own.2 with ⟨e, h0⟩ | ⟨gg, cap, cur, e, _⟩
            · omega
            · injection e with e1 _ _
              have := hP.own.cells (g := gg) (by rw [e1]; rfl) i (.int .i32 g) (by simp [I32s, hx])
              rw [Go.WideShapes.add_plain, Nat.zero_add] at this
              exact ⟨gg, e1, this⟩
          subst hga
          obtain ⟨_, wa2, wcap2, hw6, hwr⟩ := HW.out.below hB
          obtain ⟨wb, woff, A, C, rfl, hwb, hwcell, hwread, hwin, hwlen⟩ := hwr g hgn
          have hadd := add77 Bd pb sb sl sc n nm (.slice lsa N lsc) (.pointer (some ⟨fb, 5, none⟩)) (.bool true) (.slice (some ⟨gg, 0, none⟩) gk.length gc) X gk A C (W g) wq.drew hpb hsb hsl hn (Nat.le_trans hBw hB.size) ⟨hP.blk, hP.seen, hP.own, hP.bits, hP.nodup, hP.rng⟩ hwread hwin hwlen
          have hstep := hF.step hx
          rw [Int.toNat_natCast] at hstep
          have HAdd := hid hadd; have HSt := hid hstep
          generalize (W g).length = Lg at *
          clear hadd hstep hP hB hF hwread hwin hwr hx
          go_wp2_with fail
          go_still_tail 17, (by kernel_rfl)
          go_wp2_with fail
          refine HAdd.out.mono ?_
          rintro e w3 ⟨rfl, gr3, X3, hP3, hB3⟩
          have HP3 := hid hP3
          have HB3 := hid (HB.out.trans (show Below Bd wq w3 from ⟨hB3.os, hB3.tape, hB3.output, hB3.size, hB3.block⟩))
          have hlen3 : i + 1 ≤ (addL gk (W g)).length := by
            obtain ⟨t, ht⟩ := addL_prefix (W g) gk
            rw [ht, List.length_append]; omega
          clear hP3 hB3
          go_wp2
          go_roundw
          case rel => exact ⟨i + 1, gr3, X3, addL gk (W g), by go_num, hlen3, HP3.out, HB3.out, HSt.out⟩
          case measure => simp [intOf] <;> omega
        · have hini : ¬ (i : Int) < (gk.length : Int) := by omega
          obtain rfl : i = gk.length := by omega
          have HDone := hid (fun x => hF.done x)
          have hne : 0 < gk.length := by
            obtain ⟨x, hx⟩ := List.exists_mem_of_length_pos (l := lst) (by rw [HN.out]; omega)
            exact List.length_pos_of_mem (hF.1 x hx)
          obtain ⟨gg, gcap, hge, hgB, hR, hBack⟩ := own_R32 hP.own hne
          injection hge with hg1 hg2 hg3
          subst hg1 hg3
          have HBack := hid hBack; have HR0 := hid hR
          have hcells : ∀ t x, gk[t]? = some x → wq.cell? ⟨gg, t, none⟩ = some (.int .i32 x) := fun t x ht => by
            have := hP.own.cells (g := gg) rfl t (.int .i32 x) (by simp [I32s, ht])
            rwa [Go.WideShapes.add_plain, Nat.zero_add] at this
          have Hcells := hid hcells
          have hgsb : gg ≠ sb := fun e => by
            obtain ⟨c, h1, _⟩ := hP.seen
            exact own_tag hP.own h1 (by decide) (by rw [e]; rfl)
          have hgpb : gg ≠ pb := fun e => own_tag hP.own hP.blk (by decide) (by rw [e]; rfl)
          obtain ⟨L, hL⟩ : ∃ L, gk.length = L := ⟨_, rfl⟩
          have HL := hid hL
          rw [hL] at e3 hlen hne ⊢
          clear hP hB hF hBack hcells hR hL hini
          go_wp2
          go_loopw [83] (fun vk wr => ∃ (k : Nat) (Y : Nat → Nat), k ≤ L ∧ vk = .int .i64 k ∧ SeenAt sb sl Y wr ∧ Fr (fun b => b = sb) wq wr ∧ (∀ u, u < sl → Y u = X u ∨ Y u = 0) ∧ ∀ t x, t < k → gk[t]? = some x → Y (x.toNat / 64) = 0) (fun vk _ => L - (intOf vk).toNat)
          case atStart => exact ⟨0, X, by omega, rfl, HP.out.seen, Fr.refl _ _, fun u _ => .inl rfl, fun t x ht => by omega⟩
          case round =>
            generalize wr = wz at *
            obtain ⟨k, Y, hk, rfl, hS, hFr, hY1, hY2⟩ := hrel
            have hpsb : pb ≠ sb := fun e => by
              obtain ⟨c, h1, _⟩ := HP.out.seen
              have h2 := HP.out.blk
              rw [e, h1] at h2
              simp at h2
            have hblk := hFr.keep HP.out.blk hpsb
            have z3 : wz.cell? ⟨pb, 3, none⟩ = some (.slice (some ⟨gg, 0, none⟩) L gc) := by rw [cell_of hblk, HL.out]; rfl
            have z5 : wz.cell? ⟨pb, 5, none⟩ = some (.slice (some ⟨sb, 0, none⟩) sl sc) := by rw [cell_of hblk]; rfl
            have hRz : R32 gg 0 gk.toArray wz := HR0.out.fr hFr hgsb
            by_cases hkl : k < L
            · have hkli : (k : Int) < (L : Int) := by omega
              obtain ⟨x, hx⟩ : ∃ x, gk[k]? = some x := ⟨_, List.getElem?_eq_getElem (by rw [HL.out]; exact hkl)⟩
              have hxr := HP.out.rng x (List.mem_of_getElem? hx)
              obtain ⟨g, rfl⟩ : ∃ g : Nat, x = (g : Int) := ⟨x.toNat, by omega⟩
              have hgc : wz.cell? ⟨gg, k, none⟩ = some (.int .i32 g) := (cell_eq (hFr.block gg HR0.out.lt hgsb) k).trans (Hcells.out k _ hx)
              obtain ⟨q, hq⟩ : ∃ q, g / 64 = q := ⟨_, rfl⟩
              have hqi : ((g : Int) / 64) = (q : Int) := by omega
              have hql : q < sl := by omega
              obtain ⟨cur, hs1, hs2, hs3⟩ := hS
              have hcs : wz.cell? ⟨sb, q, none⟩ = some (.int .u64 (Y q : Int)) := by rw [cell_of hs1]; exact (hs3 q hql).1
              have hfs := frozen_of hs1 q
              have hS2 := SeenAt.set (show SeenAt sb sl Y wz from ⟨cur, hs1, hs2, hs3⟩) q 0 (by omega)
              have hF2 := hFr.setCell sb q (.int .u64 ((0 : Nat) : Int)) (.inl rfl)
              have HS2 := hid hS2; have HF2 := hid hF2; have HY1 := hid hY1; have HY2 := hid hY2; have Hq := hid hq; have Hx := hid hx
              clear hS2 hF2 hY1 hY2 hs1 hs2 hs3 hFr hblk hq hx hRz
              go_wp2
              go_roundw
              case rel =>
                refine ⟨k + 1, _, by omega, by go_num, HS2.out, HF2.out, fun u hu => ?_, fun t x ht hx => ?_⟩
                · by_cases e : u = q
                  · exact .inr (by simp [e])
                  · simp only [if_neg e]; exact HY1.out u hu
                · by_cases e : t = k
                  · subst e
                    rw [Hx.out] at hx
                    simp at hx
                    subst hx
                    rw [Int.toNat_natCast, Hq.out]
                    simp
                  · by_cases e2 : x.toNat / 64 = q
                    · simp [e2]
                    · simp only [if_neg e2]; exact HY2.out t x (by omega) hx
              case measure => simp [intOf] <;> omega
            · have hkli : ¬ (k : Int) < (L : Int) := by omega
              obtain rfl : k = L := by omega
              have hsort := sort78 gg 0 gc k gk.toArray wz (by simp [HL.out]) hRz (by omega)
              have hS0 : SeenAt sb sl (fun _ => 0) wz := by
                obtain ⟨cur, hs1, hs2, hs3⟩ := hS
                refine ⟨cur, hs1, hs2, fun u hu => ⟨?_, by simp⟩⟩
                have hY0 : Y u = 0 := by
                  rcases hY1 u hu with e | e
                  · by_cases h00 : Y u = 0
                    · exact h00
                    · exfalso
                      rw [e] at h00
                      obtain ⟨b, hb⟩ := Nat.exists_testBit_of_ne_zero h00
                      obtain ⟨_, _, _, hsx⟩ := HP.out.seen
                      have hXu := (hsx u hu).2
                      have hb64 : b < 64 := by
                        rcases Nat.lt_or_ge b 64 with h | h
                        · exact h
                        · exfalso
                          have : (X u).testBit b = false := Nat.testBit_lt_two_pow (Nat.lt_of_lt_of_le (show X u < 2 ^ 64 by omega) (Nat.pow_le_pow_right (show 0 < 2 by omega) h))
                          rw [this] at hb; cases hb
                      have hbit := HP.out.bits (64 * u + b) (by omega)
                      rw [show (64 * u + b) / 64 = u by omega, show (64 * u + b) % 64 = b by omega, hb] at hbit
                      have hm : ((64 * u + b : Nat) : Int) ∈ gk := by simpa using hbit.symm
                      obtain ⟨t, ht, et⟩ := List.getElem_of_mem hm
                      have := hY2 t _ (by rw [← HL.out]; exact ht) (by rw [List.getElem?_eq_getElem ht, et])
                      rw [Int.toNat_natCast, show (64 * u + b) / 64 = u by omega] at this
                      rw [← e, this] at h00
                      exact h00 rfl
                  · exact e
                have := (hs3 u hu).1
                rw [hY0] at this
                exact this
              have HSort := hid hsort; have HS0 := hid hS0; have HFr := hid hFr; have Hblk := hid hblk
              clear hsort hS0 hFr hblk hS hY1 hY2 hRz
              go_wp2_with fail
              refine HSort.out.mono ?_
              rintro e w5 ⟨rfl, d', hR5, hPm, hSr, hF5⟩
              have hd : d'.size = gk.length := by rw [hPm.1]; simp
              have hfr : Fr (fun b => b = sb ∨ b = gg) wq w5 := (HFr.out.mono (fun k _ h => .inl h)).trans' hF5 (fun k _ h => .inr h)
              have hown := HBack.out d' w5 hd hR5 _ hfr
              have hperm : d'.toList.Perm gk := by
                have h := hPm.2.2
                rw [show k = d'.size by rw [hd, HL.out], Array.extract_size] at h
                rw [show gk.toArray.extract 0 d'.size = gk.toArray by rw [hd]; simp] at h
                simpa using h
              have hnd : d'.toList.Pairwise (· ≠ ·) := (hperm.pairwise_iff (fun {a b} h => Ne.symm h)).2 HP.out.nodup
              have hpw : d'.toList.Pairwise (· < ·) := by
                rw [List.pairwise_iff_getElem] at hnd ⊢
                intro i j hi hj hij
                have h1 := hnd i j hi hj hij
                have h2 := hSr i j (by omega) hij (by have e1 := HL.out; simp at hj; omega)
                rw [getElem!_pos d' i (by simpa using hi), getElem!_pos d' j (by simpa using hj)] at h2
                simp only [Array.getElem_toList] at h1 ⊢
                omega
              have hblk5 := hF5.keep Hblk.out hgpb.symm
              have hseen5 : SeenAt sb sl (fun _ => 0) w5 := by
                have hlt : sb < wz.heap.size := by obtain ⟨c, h1, _⟩ := HS0.out; exact heap_lt h1
                exact HS0.out.move (hF5.block sb hlt hgsb.symm)
              have hB5 : Below Bd w w5 := HB.out.trans (hfr.below (Nat.le_trans hBw HB.out.size) (fun k hk h => by omega))
              have HFin := hid (And.intro hown (And.intro hperm (And.intro hpw (And.intro hblk5 (And.intro hseen5 hB5)))))
              clear hown hperm hnd hpw hblk5 hseen5 hB5 hfr hF5 hR5 hPm hSr
              go_wp2
              go_end0
              obtain ⟨hown, hperm, hpw, hblk5, hseen5, hB5⟩ := HFin.out
              refine ⟨rfl, _, _, d'.toList, hblk5, hown, .inr ⟨sb, sl, sc, rfl, hsb, hseen5⟩, hpw, fun x => ?_, hB5⟩
              rw [hperm.mem_iff]
              exact HDone.out x
end Go.Proofs.YbulkchuuGreatDoor
