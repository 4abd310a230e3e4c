import Derived.Test.YbulkchuuGreatDoorM3
namespace Go.Proofs.YbulkchuuGreatDoor
open Go.RowKit Go.Maps Classical
set_option linter.unusedVariables false
set_option linter.unusedSimpArgs false
set_option maxRecDepth 100000

theorem set6_get (cur : Array Value) (o : Nat) (a0 a1 a2 a3 a4 a5 : Value) (j : Nat) (hs : o + 6 ≤ cur.size) : ((((((cur.setIfInBounds o a0).setIfInBounds (o + 1) a1).setIfInBounds (o + 2) a2).setIfInBounds (o + 3) a3).setIfInBounds (o + 4) a4).setIfInBounds (o + 5) a5)[j]? =
    if j = o then some a0 else if j = o + 1 then some a1 else if j = o + 2 then some a2 else if j = o + 3 then some a3 else if j = o + 4 then some a4 else if j = o + 5 then some a5 else cur[j]? := by
  simp only [Array.getElem?_setIfInBounds, Array.size_setIfInBounds]
  by_cases h0 : j = o
  · subst h0; simp; omega
  · by_cases h1 : j = o + 1
    · subst h1; simp; omega
    · by_cases h2 : j = o + 2
      · subst h2; simp; omega
      · by_cases h3 : j = o + 3
        · subst h3; simp; omega
        · by_cases h4 : j = o + 4
          · subst h4; simp; omega
          · by_cases h5 : j = o + 5
            · subst h5; simp; omega
            · have : ¬ o = j ∧ ¬ o + 1 = j ∧ ¬ o + 2 = j ∧ ¬ o + 3 = j ∧ ¬ o + 4 = j ∧ ¬ o + 5 = j := by omega
              simp [this, h0, h1, h2, h3, h4, h5]
def set6 (w : World) (pb o : Nat) (a0 a1 a2 a3 a4 a5 : Value) : World := (((((w.setCell ⟨pb, o, none⟩ a0).setCell ⟨pb, o + 1, none⟩ a1).setCell ⟨pb, o + 2, none⟩ a2).setCell ⟨pb, o + 3, none⟩ a3).setCell ⟨pb, o + 4, none⟩ a4).setCell ⟨pb, o + 5, none⟩ a5
theorem set6_other (w : World) (pb o : Nat) (a0 a1 a2 a3 a4 a5 : Value) {b : Nat} (hb : b ≠ pb) : (set6 w pb o a0 a1 a2 a3 a4 a5).heap[b]? = w.heap[b]? := by
  unfold set6
  have h : ∀ (W : World) (j : Nat) (v : Value), (W.setCell ⟨pb, j, none⟩ v).heap[b]? = W.heap[b]? := fun W j v => Below.heap_setCell _ _ _ _ (by simpa using hb)
  rw [h, h, h, h, h, h]
theorem set6_size (w : World) (pb o : Nat) (a0 a1 a2 a3 a4 a5 : Value) : (set6 w pb o a0 a1 a2 a3 a4 a5).heap.size = w.heap.size := by
  unfold set6; simp
theorem PrinAt.push {Bd fbk : Nat} {D : DIn} {uL : List ByteArray} {U pb i : Nat} {G : Nat → Prop} {v0 u4 : World} {cur : Array Value} {u : ByteArray} {LA : Option Addr} {LC : Nat} {gv : Value} (hpb4 : u4.heap[pb]? = some (.cells cur 109 (0, 0))) (hs : cur.size = U * 6) (hi : i < U) (hBp : Bd ≤ pb)
    (hpp : ∀ j u, j < i → uL[j]? = some u → PrinCell Bd fbk D u G cur j v0) (hK : Kp G v0 u4) (hB : Below Bd v0 u4) (hG : ∀ b, G b → b ≠ pb) (hu : uL[i]? = some u) (hRd : ReadI Bd LA (listOf D u) v0) (hrow : u4.ownsRow 0 21 1 gv (grpOf D u).length (I32s (grpOf D u))) :
    PrinAt Bd fbk D uL U pb (i + 1) (fun b => G b ∨ gv.ownBlock = some b) (set6 u4 pb (i * 6) (.string u) (.slice LA (listOf D u).length LC) (.pointer (some ⟨fbk, 5, none⟩)) gv (.bool true) (.slice none 0 0)) := by
  have hB5 : Below Bd u4 (set6 u4 pb (i * 6) (.string u) (.slice LA (listOf D u).length LC) (.pointer (some ⟨fbk, 5, none⟩)) gv (.bool true) (.slice none 0 0)) := by
    unfold set6
    exact ((((((Below.refl _ u4).setCell hBp _).setCell hBp _).setCell hBp _).setCell hBp _).setCell hBp _).setCell hBp _
  have hgp : ∀ b, gv.ownBlock = some b → b ≠ pb := fun b hb e => own_tag hrow hpb4 (by decide) (by rw [hb, e])
  have hblk : (set6 u4 pb (i * 6) (.string u) (.slice LA (listOf D u).length LC) (.pointer (some ⟨fbk, 5, none⟩)) gv (.bool true) (.slice none 0 0)).heap[pb]? = _ := heap_set (heap_set (heap_set (heap_set (heap_set (heap_set hpb4 _ _) _ _) _ _) _ _) _ _) _ _
  refine ⟨_, hblk, by simpa using hs, fun j u' hj hu' => ?_⟩
  have hsz : i * 6 + 6 ≤ cur.size := by omega
  by_cases e : j = i
  · subst e
    rw [hu] at hu'
    injection hu' with hu'
    subst hu'
    refine ⟨LA, LC, gv, ?_, ?_, ?_, ?_, ?_, ?_, (hRd.below hB).below hB5, own_move hrow (fun g hg _ => set6_other _ _ _ _ _ _ _ _ _ (hgp g hg)), fun b hb => .inr hb⟩
    · rw [set6_get _ _ _ _ _ _ _ _ _ hsz, if_pos rfl]
    · rw [set6_get _ _ _ _ _ _ _ _ _ hsz, if_neg (by omega), if_pos rfl]
    · rw [set6_get _ _ _ _ _ _ _ _ _ hsz, if_neg (by omega), if_neg (by omega), if_pos rfl]
    · rw [set6_get _ _ _ _ _ _ _ _ _ hsz, if_neg (by omega), if_neg (by omega), if_neg (by omega), if_pos rfl]
    · rw [set6_get _ _ _ _ _ _ _ _ _ hsz, if_neg (by omega), if_neg (by omega), if_neg (by omega), if_neg (by omega), if_pos rfl]
    · rw [set6_get _ _ _ _ _ _ _ _ _ hsz, if_neg (by omega), if_neg (by omega), if_neg (by omega), if_neg (by omega), if_neg (by omega), if_pos rfl]
  · obtain ⟨A, C, gv', e0, e1, e2, e3, e4, e5, e6, e7⟩ := hpp j u' (by omega) hu'
    have hg : ∀ c, c < 6 → ((((((cur.setIfInBounds (i * 6) (.string u)).setIfInBounds (i * 6 + 1) (.slice LA (listOf D u).length LC)).setIfInBounds (i * 6 + 2) (.pointer (some ⟨fbk, 5, none⟩))).setIfInBounds (i * 6 + 3) gv).setIfInBounds (i * 6 + 4) (.bool true)).setIfInBounds (i * 6 + 5) (.slice none 0 0))[j * 6 + c]? = cur[j * 6 + c]? := fun c hc => by
      rw [set6_get _ _ _ _ _ _ _ _ _ hsz, if_neg (by omega), if_neg (by omega), if_neg (by omega), if_neg (by omega), if_neg (by omega), if_neg (by omega)]
    refine ⟨A, C, gv', (hg 0 (by omega)).trans e0, (hg 1 (by omega)).trans e1, (hg 2 (by omega)).trans e2, (hg 3 (by omega)).trans e3, (hg 4 (by omega)).trans e4, (hg 5 (by omega)).trans e5, (e6.below hB).below hB5, ?_⟩
    exact (e7.keep hK (fun b hb => hb)).keep (fun b hb => set6_other _ _ _ _ _ _ _ _ _ (hG b hb)) (fun b hb => .inl hb)
/-- a member is added to a group's row -/
theorem MembAt.push {D : DIn} {uL : List ByteArray} {mb N : Nat} {L : Nat → List Int} {S : Nat → Prop} {w : World} (h : MembAt D uL mb N L S w) (g : Nat) (hg : g < N) (i : Nat) (hi : i ≤ 1000000) (hl : (L g).length ≤ 1000000) (hS : ∀ b, S b → b < w.heap.size) :
    ∃ va vc va' vc' w8, w.cell? ⟨mb, g, none⟩ = some (.slice va (L g).length vc) ∧ (Builtin.append_ #[77, 77] 77 #[.slice va (L g).length vc, .slice (some ⟨w.heap.size, 0, none⟩) 1 1]).run Ybaz.prog (w.alloc (.cells #[.int .i32 (i : Int)] 21)).drew = .ok (.slice va' ((L g).length + 1) vc') w8 ∧
      w8.cell? ⟨mb, g, none⟩ = some (.slice va (L g).length vc) ∧ w8.frozen? ⟨mb, g, none⟩ = false ∧
      MembAt D uL mb N (fun j => if j = g then L g ++ [(i : Int)] else L j) (fun b => S b ∨ (Value.slice va' ((L g).length + 1) vc').ownBlock = some b) (w8.setCell ⟨mb, g, none⟩ (.slice va' ((L g).length + 1) vc')) ∧
      (∀ b, (Value.slice va' ((L g).length + 1) vc').ownBlock = some b → S b ∨ (w.heap.size ≤ b ∧ b < w8.heap.size)) ∧ (∀ b, b < w.heap.size → b ≠ mb → ¬ S b → (w8.setCell ⟨mb, g, none⟩ (.slice va' ((L g).length + 1) vc')).heap[b]? = w.heap[b]?) ∧
      (w8.os = w.os ∧ w8.tape = w.tape ∧ w8.output = w.output) ∧ w.heap.size ≤ w8.heap.size := by
  obtain ⟨cur, h1, h2, h3, h4⟩ := h
  obtain ⟨v, hv, hown, hvS⟩ := h3 g hg
  obtain ⟨va, vc, rfl⟩ := own_slice' hown
  obtain ⟨i21, hi21, hx0, hx1, hx2⟩ := info_parts info21
  have hmbl := heap_lt h1
  obtain ⟨v', w8, hrun, ho8, hg8, _, hat8⟩ := run_append_own_at (P := Ybaz.prog) (w.alloc (.cells #[.int .i32 (i : Int)] 21)).drew 0 77 77 21 i21 (.int .i32 0) 1 4 Ybaz.underlying77 hi21 hx0 hx1 hx2 rfl (by decide) (.slice va (L g).length vc) (L g).length (I32s (L g)) (hown.alloc (.cells #[.int .i32 (i : Int)] 21)) ⟨w.heap.size, 0, none⟩ 1 1 [.int .i32 (i : Int)] rfl (new_cells w [.int .i32 (i : Int)] 21) (by intro u hu; simp at hu; subst hu; rfl) (by unfold maxLen; omega) (by omega) (Nat.zero_le _)
  obtain ⟨va', vc', rfl⟩ := own_slice' ho8
  have hmbv : (Value.slice va (L g).length vc).ownBlock ≠ some mb := own_tag hown h1 (by decide)
  have hA : ∀ b, b < w.heap.size → (w.alloc (.cells #[.int .i32 (i : Int)] 21)).drew.heap[b]? = w.heap[b]? := fun b hb => Below.heap_alloc _ _ _ hb
  have hsA : (w.alloc (.cells #[.int .i32 (i : Int)] 21)).drew.heap.size = w.heap.size + 1 := by show (w.alloc _).heap.size = _; simp
  have hk8 : ∀ b, b < w.heap.size → (Value.slice va (L g).length vc).ownBlock ≠ some b → w8.heap[b]? = w.heap[b]? := fun b hb hne => (hg8.block b (by omega) (fun e => hne e.symm)).trans (hA b hb)
  have hb8 : w8.heap[mb]? = some (.cells cur 77 (0, 0)) := (hk8 mb hmbl hmbv).trans h1
  have hmb8 : (Value.slice va' ((L g).length + 1) vc').ownBlock ≠ some mb := own_tag ho8 hb8 (by decide)
  have hnew : ∀ b, (Value.slice va' ((L g).length + 1) vc').ownBlock = some b → S b ∨ (w.heap.size ≤ b ∧ b < w8.heap.size) := fun b hb => by
    rcases hat8 with e | e
    · rw [e] at hb; exact .inl (hvS b hb)
    · have := (ho8.lt b hb).2
      rw [e] at hb
      injection hb with hb
      right
      omega
  refine ⟨va, vc, va', vc', w8, by rw [cell_of h1]; exact hv, hrun, by rw [cell_of hb8]; exact hv, frozen_of hb8 _, ?_, hnew, fun b hb hne hS' => ?_, ⟨hg8.os, hg8.tape, hg8.output⟩, by have := hg8.size; omega⟩
  · refine ⟨_, heap_set hb8 _ _, by simpa using h2, fun j hj => ?_, fun j j' x x' b hne hx hx' hb => ?_⟩
    · by_cases e : j = g
      · subst e
        refine ⟨.slice va' ((L j).length + 1) vc', by simp [h2, hg], ?_, fun b hb => .inr hb⟩
        simp only [if_true, List.length_append, List.length_singleton]
        have := own_move (w' := w8.setCell ⟨mb, j, none⟩ (.slice va' ((L j).length + 1) vc')) ho8 (fun b hb _ => Below.heap_setCell _ _ _ _ (fun e => hmb8 (by rw [hb]; simp at e; rw [e])))
        rw [I32s, List.map_append]
        exact this
      · obtain ⟨x, k1, k2, k3⟩ := h3 j hj
        refine ⟨x, by rw [Array.getElem?_setIfInBounds, if_neg (fun e' => e e'.symm)]; exact k1, ?_, fun b hb => .inl (k3 b hb)⟩
        simp only [if_neg e]
        refine own_move k2 (fun b hb hl => ?_)
        rw [Below.heap_setCell _ _ _ _ (fun e => own_tag k2 h1 (by decide) (by rw [hb]; simp at e; rw [e]))]
        exact hk8 b hl (fun e' => h4 j g x _ b e k1 hv hb e')
    · rw [Array.getElem?_setIfInBounds] at hx hx'
      by_cases e : g = j
      · subst e
        rw [if_pos rfl, if_pos (by omega)] at hx
        rw [if_neg hne] at hx'
        injection hx with hx
        subst hx
        have hj' : j' < N := by have := (Array.getElem?_eq_some_iff.1 hx').1; omega
        obtain ⟨x2, k1, k2, k3⟩ := h3 j' hj'
        rw [hx'] at k1
        injection k1 with k1
        subst k1
        intro e'
        rcases hat8 with e2 | e2
        · rw [e2] at hb
          exact h4 g j' _ _ b hne hv hx' hb e'
        · rw [e2] at hb
          injection hb with hb
          have := (k2.lt b e').2
          omega
      · rw [if_neg e] at hx
        by_cases e' : g = j'
        · subst e'
          rw [if_pos rfl, if_pos (by omega)] at hx'
          injection hx' with hx'
          subst hx'
          have hj' : j < N := by have := (Array.getElem?_eq_some_iff.1 hx).1; omega
          obtain ⟨x2, k1, k2, k3⟩ := h3 j hj'
          rw [hx] at k1
          injection k1 with k1
          subst k1
          intro e3
          rcases hat8 with e2 | e2
          · rw [e2] at e3
            exact h4 j g _ _ b (fun h => e h.symm) hx hv hb e3
          · rw [e2] at e3
            injection e3 with e3
            have := (k2.lt b hb).2
            omega
        · rw [if_neg e'] at hx'
          exact h4 j j' x x' b hne hx hx' hb
  · rw [Below.heap_setCell _ _ _ _ (by simpa using hne)]
    exact hk8 b hb (fun e => hS' (hvS b e))
def L8 (D : DIn) [∀ (u : ByteArray) (g : Nat), Decidable (InGrp D u g)] (uL : List ByteArray) (u : ByteArray) (i t g : Nat) : List Int := mOf D uL i g ++ if (g : Int) ∈ (grpOf D u).take t then [(i : Int)] else []
theorem mOf_len (D : DIn) (uL : List ByteArray) (i g : Nat) : (mOf D uL i g).length ≤ i := by
  unfold mOf
  rw [List.length_map]
  exact Nat.le_trans (List.length_filter_le _ _) (by simp)
theorem L8_len (D : DIn) (uL : List ByteArray) (u : ByteArray) (i t g : Nat) : (L8 D uL u i t g).length ≤ i + 1 := by
  unfold L8
  have := mOf_len D uL i g
  rw [List.length_append]
  split <;> simp <;> omega
theorem L8_zero (D : DIn) (uL : List ByteArray) (u : ByteArray) (i : Nat) : L8 D uL u i 0 = mOf D uL i := by
  funext g; simp [L8]
theorem L8_succ (D : DIn) (uL : List ByteArray) (u : ByteArray) (i t g : Nat) (hg : (grpOf D u)[t]? = some (g : Int)) : (fun j => if j = g then L8 D uL u i t g ++ [(i : Int)] else L8 D uL u i t j) = L8 D uL u i (t + 1) := by
  have hpw : (grpOf D u).Pairwise (· < ·) := range_strict _ _
  have htl : t < (grpOf D u).length := (List.getElem?_eq_some_iff.1 hg).1
  have hge : (grpOf D u)[t] = (g : Int) := (List.getElem?_eq_some_iff.1 hg).2
  have hnot : (g : Int) ∉ (grpOf D u).take t := fun h => by
    obtain ⟨a, ha, e⟩ := List.getElem_of_mem h
    rw [List.getElem_take] at e
    have hat : a < t := by rw [List.length_take] at ha; omega
    have := List.pairwise_iff_getElem.1 hpw a t (by omega) htl hat
    omega
  have htk : (grpOf D u).take (t + 1) = (grpOf D u).take t ++ [(g : Int)] := by rw [List.take_add_one, hg]; rfl
  funext j
  by_cases e : j = g
  · subst e
    simp only [if_true]
    unfold L8
    rw [if_neg hnot, htk]
    simp
  · simp only [if_neg e]
    unfold L8
    rw [htk]
    have : ¬ (j : Int) = (g : Int) := by omega
    simp [this]
theorem L8_all {D : DIn} (hn : 0 ≤ D.n) (uL : List ByteArray) (u : ByteArray) (i t : Nat) (hu : uL[i]? = some u) (ht : t = (grpOf D u).length) : L8 D uL u i t = mOf D uL (i + 1) := by
  funext g
  unfold L8
  rw [ht, List.take_length]
  by_cases hg : g < D.n.toNat
  · rw [mOf_succ D uL i g u hu hg]
  · have h1 : ¬ (g : Int) ∈ grpOf D u := fun h => by have := grp_in u _ h; omega
    have h2 : ¬ InGrp D u g := fun h => by
      obtain ⟨⟨h3, j, _, h4⟩, _⟩ := h
      have := Int.emod_lt_of_pos (D.grp j) h3
      omega
    rw [if_neg h1]
    unfold mOf
    rw [List.range_succ, List.filter_append, List.map_append]
    congr 1
    simp [hu, h2]
end Go.Proofs.YbulkchuuGreatDoor
