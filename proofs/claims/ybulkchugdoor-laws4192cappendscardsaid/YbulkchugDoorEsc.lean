import Derived.Test.YbulkchugDoorApp
import Derived.Handy
namespace Go.Proofs.YbulkchugDoor
open Go.RowKit
set_option linter.unusedVariables false
set_option linter.unusedSimpArgs false
set_option maxRecDepth 100000

/-- what a backslash and c stand for, as cells -/
def mdl (c : Int) : List Value :=
  if c = 37 ∨ c = 95 then [.int .u8 92, .int .u8 c]
  else if c = 48 then [.int .u8 0] else if c = 98 then [.int .u8 8] else if c = 110 then [.int .u8 10]
  else if c = 114 then [.int .u8 13] else if c = 116 then [.int .u8 9] else if c = 90 then [.int .u8 26] else [.int .u8 c]

def esc : Array Value := #[.int .u8 0, .int .u8 48, .int .u8 8, .int .u8 98, .int .u8 10, .int .u8 110, .int .u8 13, .int .u8 114, .int .u8 9, .int .u8 116, .int .u8 26, .int .u8 90]
def EscAt (w : World) : Prop := ∃ t fr, w.heap[0]? = some (.cells esc t fr)

theorem EscAt.below {B : Nat} {w w' : World} (h : EscAt w) (hb : Below B w w') (hB : 0 < B) : EscAt w' := by
  obtain ⟨t, fr, h⟩ := h
  exact ⟨t, fr, (hb.block 0 hB).trans h⟩

theorem index_esc (w : World) : 
    (Instr.index 73 (.agg esc) (.int .i64 0)).run Ybad.prog w = .ok (.agg #[.int .u8 0, .int .u8 48]) w ∧
    (Instr.index 73 (.agg esc) (.int .i64 1)).run Ybad.prog w = .ok (.agg #[.int .u8 8, .int .u8 98]) w ∧
    (Instr.index 73 (.agg esc) (.int .i64 2)).run Ybad.prog w = .ok (.agg #[.int .u8 10, .int .u8 110]) w ∧
    (Instr.index 73 (.agg esc) (.int .i64 3)).run Ybad.prog w = .ok (.agg #[.int .u8 13, .int .u8 114]) w ∧
    (Instr.index 73 (.agg esc) (.int .i64 4)).run Ybad.prog w = .ok (.agg #[.int .u8 9, .int .u8 116]) w ∧
    (Instr.index 73 (.agg esc) (.int .i64 5)).run Ybad.prog w = .ok (.agg #[.int .u8 26, .int .u8 90]) w :=
  ⟨by kernel_rfl, by kernel_rfl, by kernel_rfl, by kernel_rfl, by kernel_rfl, by kernel_rfl⟩

set_option maxHeartbeats 1000000 in
/-- the two wildcards -/
theorem unescaped_wild (B b : Nat) (bs ys : List Value) (u : Value) (c : Int) (w : World) (h : Two B b bs u ys w) (hlen : bs.length + 2 ≤ 140737488355328) (hc : c = 37 ∨ c = 95) :
    Calls Ybad.prog 10 #[.pointer (some ⟨b, 0, none⟩), .int .u8 c] w fun e w' => e = .returned (.tuple #[]) ∧ Two B b (bs ++ mdl c) u ys w' ∧ Below B w w' := by
  have hm : mdl c = [.int .u8 92, .int .u8 c] := by simp [mdl, hc]
  rcases hc with rfl | rfl
  all_goals
    rw [hm]
    clear hm
    go_enter Ybad.func10, Ybad.ntmps10
    go_wp2_with fail
    refine (writeByte_two B b bs ys u 92 _ h (by omega)).mono ?_
    rintro e w1 ⟨rfl, h1, hb1⟩
    go_wp2_with fail
    refine (writeByte_two B b _ ys u _ _ h1 (by simp; omega)).mono ?_
    rintro e w2 ⟨rfl, h2, hb2⟩
    go_wp2
    go_returns
    refine ⟨rfl, ?_, hb1.trans hb2⟩
    simpa using h2

set_option maxHeartbeats 2000000 in
theorem unescaped_tame (B b : Nat) (bs ys : List Value) (u : Value) (c : Int) (w : World) (h : Two B b bs u ys w) (hlen : bs.length + 2 ≤ 140737488355328) (hB : 0 < B) (hE : EscAt w) (h37 : (c == 37) = false) (h95 : (c == 95) = false) :
    Calls Ybad.prog 10 #[.pointer (some ⟨b, 0, none⟩), .int .u8 c] w fun e w' => e = .returned (.tuple #[]) ∧ Two B b (bs ++ mdl c) u ys w' ∧ Below B w w' := by
  obtain ⟨te, fe, hE⟩ := hE
  have n37 : c ≠ 37 := by simpa using h37
  have n95 : c ≠ 95 := by simpa using h95
  have hsz : (Ybad.prog.info? 73).map (·.size) = some esc.size := by kernel_rfl
  go_enter Ybad.func10, Ybad.ntmps10
  go_wp2_with (refine wpList_load_row rfl 73 _ rfl 0 rfl te esc fe _ hE Ybad.underlying73 rfl hsz ?_)
  go_loopw [18] (fun i wr => ∃ k : Nat, k ≤ 6 ∧ i = .int .i64 k ∧ Two B b bs u ys wr ∧ Below B w wr ∧ (1 ≤ k → c ≠ 48) ∧ (2 ≤ k → c ≠ 98) ∧ (3 ≤ k → c ≠ 110) ∧ (4 ≤ k → c ≠ 114) ∧ (5 ≤ k → c ≠ 116) ∧ (6 ≤ k → c ≠ 90)) (fun i _ => 6 - (intOf i).toNat)
  case atStart => exact ⟨0, by omega, rfl, h, Below.refl _ _, by omega, by omega, by omega, by omega, by omega, by omega⟩
  case round =>
    obtain ⟨k, hk, rfl, h1, hb1, i1, i2, i3, i4, i5, i6⟩ := hrel
    have hlt := h1.lt
    obtain ⟨x0, x1, x2, x3, x4, x5⟩ := index_esc wr
    have hk7 : k = 0 ∨ k = 1 ∨ k = 2 ∨ k = 3 ∨ k = 4 ∨ k = 5 ∨ k = 6 := by omega
    rcases hk7 with rfl | rfl | rfl | rfl | rfl | rfl | rfl
    · by_cases hc : c = 48
      · subst hc
        go_wp2_with fail
        refine (writeByte_two B b bs ys u 0 _ (h1.alloc _) (by omega)).mono ?_
        rintro e w2 ⟨rfl, h2, hb2⟩
        go_wp2
        go_returns
        exact ⟨rfl, h2, (hb1.alloc (by omega) _).trans hb2⟩
      · have hcb : ((48 : Int) == c) = false := by simp; omega
        go_wp2
        go_roundw
        case rel => exact ⟨1, by omega, rfl, h1.alloc _, hb1.alloc (by omega) _, by omega, by omega, by omega, by omega, by omega, by omega⟩
        case measure => simp [intOf]
    · by_cases hc : c = 98
      · subst hc
        go_wp2_with fail
        refine (writeByte_two B b bs ys u 8 _ (h1.alloc _) (by omega)).mono ?_
        rintro e w2 ⟨rfl, h2, hb2⟩
        go_wp2
        go_returns
        exact ⟨rfl, h2, (hb1.alloc (by omega) _).trans hb2⟩
      · have hcb : ((98 : Int) == c) = false := by simp; omega
        go_wp2
        go_roundw
        case rel => exact ⟨2, by omega, rfl, h1.alloc _, hb1.alloc (by omega) _, by omega, by omega, by omega, by omega, by omega, by omega⟩
        case measure => simp [intOf]
    · by_cases hc : c = 110
      · subst hc
        go_wp2_with fail
        refine (writeByte_two B b bs ys u 10 _ (h1.alloc _) (by omega)).mono ?_
        rintro e w2 ⟨rfl, h2, hb2⟩
        go_wp2
        go_returns
        exact ⟨rfl, h2, (hb1.alloc (by omega) _).trans hb2⟩
      · have hcb : ((110 : Int) == c) = false := by simp; omega
        go_wp2
        go_roundw
        case rel => exact ⟨3, by omega, rfl, h1.alloc _, hb1.alloc (by omega) _, by omega, by omega, by omega, by omega, by omega, by omega⟩
        case measure => simp [intOf]
    · by_cases hc : c = 114
      · subst hc
        go_wp2_with fail
        refine (writeByte_two B b bs ys u 13 _ (h1.alloc _) (by omega)).mono ?_
        rintro e w2 ⟨rfl, h2, hb2⟩
        go_wp2
        go_returns
        exact ⟨rfl, h2, (hb1.alloc (by omega) _).trans hb2⟩
      · have hcb : ((114 : Int) == c) = false := by simp; omega
        go_wp2
        go_roundw
        case rel => exact ⟨4, by omega, rfl, h1.alloc _, hb1.alloc (by omega) _, by omega, by omega, by omega, by omega, by omega, by omega⟩
        case measure => simp [intOf]
    · by_cases hc : c = 116
      · subst hc
        go_wp2_with fail
        refine (writeByte_two B b bs ys u 9 _ (h1.alloc _) (by omega)).mono ?_
        rintro e w2 ⟨rfl, h2, hb2⟩
        go_wp2
        go_returns
        exact ⟨rfl, h2, (hb1.alloc (by omega) _).trans hb2⟩
      · have hcb : ((116 : Int) == c) = false := by simp; omega
        go_wp2
        go_roundw
        case rel => exact ⟨5, by omega, rfl, h1.alloc _, hb1.alloc (by omega) _, by omega, by omega, by omega, by omega, by omega, by omega⟩
        case measure => simp [intOf]
    · by_cases hc : c = 90
      · subst hc
        go_wp2_with fail
        refine (writeByte_two B b bs ys u 26 _ (h1.alloc _) (by omega)).mono ?_
        rintro e w2 ⟨rfl, h2, hb2⟩
        go_wp2
        go_returns
        exact ⟨rfl, h2, (hb1.alloc (by omega) _).trans hb2⟩
      · have hcb : ((90 : Int) == c) = false := by simp; omega
        go_wp2
        go_roundw
        case rel => exact ⟨6, by omega, rfl, h1.alloc _, hb1.alloc (by omega) _, by omega, by omega, by omega, by omega, by omega, by omega⟩
        case measure => simp [intOf]
    · have hm : mdl c = [.int .u8 c] := by
        have := i1 (by omega); have := i2 (by omega); have := i3 (by omega); have := i4 (by omega); have := i5 (by omega); have := i6 (by omega)
        simp [mdl, *]
      have Hm : Hid _ := hm
      clear hm x0 x1 x2 x3 x4 x5 i1 i2 i3 i4 i5 i6
      go_wp2_with fail
      refine (writeByte_two B b bs ys u c _ h1 (by omega)).mono ?_
      rintro e w2 ⟨rfl, h2, hb2⟩
      go_wp2
      go_returns
      rw [Hm.out]
      exact ⟨rfl, h2, hb1.trans hb2⟩

theorem unescaped_any (B b : Nat) (bs ys : List Value) (u : Value) (c : Int) (w : World) (h : Two B b bs u ys w) (hlen : bs.length + 2 ≤ 140737488355328) (hB : 0 < B) (hE : EscAt w) :
    Calls Ybad.prog 10 #[.pointer (some ⟨b, 0, none⟩), .int .u8 c] w fun e w' => e = .returned (.tuple #[]) ∧ Two B b (bs ++ mdl c) u ys w' ∧ Below B w w' := by
  by_cases hc : c = 37 ∨ c = 95
  · exact unescaped_wild B b bs ys u c w h hlen hc
  · exact unescaped_tame B b bs ys u c w h hlen hB hE (by simp; omega) (by simp; omega)

/-- the other row is appended to: the builder beside it stays -/
theorem Two.grown {B b : Nat} {bs ys zs : List Value} {u u' : Value} {w w' : World} (h : Two B b bs u ys w) (hown : w'.ownsRow B 5 1 u' zs.length zs) (hgrow : w.grownBy w' u.ownBlock) (hblk : u'.ownBlock = u.ownBlock ∨ u'.ownBlock = some w.heap.size) : Two B b bs u' zs w' := by
  have hl := h.lt
  obtain ⟨v, ⟨hB, hb, ho, hne, hn⟩, hu, gu, hg1, hg2, hg3⟩ := h
  refine ⟨v, ⟨hB, ?_, ho.kept hgrow (.inr ?_), hne, hn⟩, hown, ?_⟩
  · rw [hgrow.block b hl.2 (by rw [hg1]; intro e; exact hg2 (Option.some.inj e).symm)]; exact hb
  · rw [hg1]; exact hg3
  · rcases hblk with e | e
    · exact ⟨gu, e.trans hg1, hg2, hg3⟩
    · refine ⟨w.heap.size, e, by omega, ?_⟩
      intro e2
      have := (ho.lt _ e2).2
      omega

set_option maxHeartbeats 2000000 in
theorem model_one (B b : Nat) (bs ys : List Value) (u : Value) (c : Int) (w : World) (h : Two B b bs u ys w) (hlen : ys.length + 2 ≤ 140737488355328) :
    Calls Ybad.prog 11 #[u, .int .u8 c] w fun e w' => ∃ u', e = .returned u' ∧ Two B b bs u' (ys ++ mdl c) w' ∧ Below B w w' := by
  have hl := h.lt
  obtain ⟨i0, hi, hz0, hz1, hz2⟩ := info_parts info5
  have hu : w.ownsRow B 5 1 u ys.length ys := by obtain ⟨v, _, hu, _⟩ := h; exact hu
  have fin1 : ∀ (x : Value) (T : TypeId) (u' : Value) (w' : World), mdl c = [x] → w'.ownsRow B 5 1 u' (ys.length + 1) (ys ++ [x]) → (w.alloc (.cells #[x] T)).grownBy w' u.ownBlock → (u'.ownBlock = u.ownBlock ∨ u'.ownBlock = some (w.heap.size + 1)) → Two B b bs u' (ys ++ mdl c) w' ∧ Below B w w' := by
    intro x T u' w' hm ho hg hb
    rw [hm]
    refine ⟨(h.alloc _).grown (by simpa using ho) hg (by simpa using hb), ((Below.refl B w).alloc (by omega) _).grown hg (by simp; omega) (fun k hk => (hu.lt k hk).1)⟩
  have fin2 : ∀ (x y : Value) (T : TypeId) (u' : Value) (w' : World), mdl c = [x, y] → w'.ownsRow B 5 1 u' (ys.length + 2) (ys ++ [x, y]) → (w.alloc (.cells #[x, y] T)).grownBy w' u.ownBlock → (u'.ownBlock = u.ownBlock ∨ u'.ownBlock = some (w.heap.size + 1)) → Two B b bs u' (ys ++ mdl c) w' ∧ Below B w w' := by
    intro x y T u' w' hm ho hg hb
    rw [hm]
    refine ⟨(h.alloc _).grown (by simpa using ho) hg (by simpa using hb), ((Below.refl B w).alloc (by omega) _).grown hg (by simp; omega) (fun k hk => (hu.lt k hk).1)⟩
  have F1 : Hid _ := fin1
  have F2 : Hid _ := fin2
  clear fin1 fin2
  by_cases hw : c = 37 ∨ c = 95
  · rcases hw with rfl | rfl
    all_goals
      go_enter Ybad.func11, Ybad.ntmps11
      go_wp2_with (at_builtin; refine wpList_append_own2 _ rfl _ _ 39 rfl B 5 i0 (.int .u8 0) 1 1 Ybad.underlying39 hi hz0 hz1 hz2 rfl (by decide) _ _ _ rfl (hu.alloc _) ⟨w.heap.size, 0, none⟩ 2 2 _ rfl rfl (cell_two _ _ _ _) (by intro u hu; simp at hu; rcases hu with rfl | rfl <;> rfl) (by unfold maxLen; omega) (by omega) (by simp; omega) (by decide) ?_)
      intro u' w' h1 h2 h3
      go_wp2
      go_ret
      exact ⟨_, rfl, F2.out _ _ _ u' w' (by simp [mdl]) h1 h2 h3⟩
  · have n1 : (c == 37) = false := by simp; omega
    have n2 : (c == 95) = false := by simp; omega
    by_cases h48 : c = 48
    · subst h48
      go_enter Ybad.func11, Ybad.ntmps11
      go_wp2_with (at_builtin; refine wpList_append_own2 _ rfl _ _ 39 rfl B 5 i0 (.int .u8 0) 1 1 Ybad.underlying39 hi hz0 hz1 hz2 rfl (by decide) _ _ _ rfl (hu.alloc _) ⟨w.heap.size, 0, none⟩ 1 1 _ rfl rfl (cell_one _ _ _) (by intro u hu; simp at hu; subst hu; rfl) (by unfold maxLen; omega) (by omega) (by simp; omega) (by decide) ?_)
      intro u' w' h1 h2 h3
      go_wp2
      go_ret
      exact ⟨_, rfl, F1.out _ _ u' w' (by simp [mdl]) h1 h2 h3⟩
    have m0 : (c == 48) = false := by simp; omega
    by_cases h98 : c = 98
    · subst h98
      go_enter Ybad.func11, Ybad.ntmps11
      go_wp2_with (at_builtin; refine wpList_append_own2 _ rfl _ _ 39 rfl B 5 i0 (.int .u8 0) 1 1 Ybad.underlying39 hi hz0 hz1 hz2 rfl (by decide) _ _ _ rfl (hu.alloc _) ⟨w.heap.size, 0, none⟩ 1 1 _ rfl rfl (cell_one _ _ _) (by intro u hu; simp at hu; subst hu; rfl) (by unfold maxLen; omega) (by omega) (by simp; omega) (by decide) ?_)
      intro u' w' h1 h2 h3
      go_wp2
      go_ret
      exact ⟨_, rfl, F1.out _ _ u' w' (by simp [mdl]) h1 h2 h3⟩
    have m1 : (c == 98) = false := by simp; omega
    by_cases h110 : c = 110
    · subst h110
      go_enter Ybad.func11, Ybad.ntmps11
      go_wp2_with (at_builtin; refine wpList_append_own2 _ rfl _ _ 39 rfl B 5 i0 (.int .u8 0) 1 1 Ybad.underlying39 hi hz0 hz1 hz2 rfl (by decide) _ _ _ rfl (hu.alloc _) ⟨w.heap.size, 0, none⟩ 1 1 _ rfl rfl (cell_one _ _ _) (by intro u hu; simp at hu; subst hu; rfl) (by unfold maxLen; omega) (by omega) (by simp; omega) (by decide) ?_)
      intro u' w' h1 h2 h3
      go_wp2
      go_ret
      exact ⟨_, rfl, F1.out _ _ u' w' (by simp [mdl]) h1 h2 h3⟩
    have m2 : (c == 110) = false := by simp; omega
    by_cases h114 : c = 114
    · subst h114
      go_enter Ybad.func11, Ybad.ntmps11
      go_wp2_with (at_builtin; refine wpList_append_own2 _ rfl _ _ 39 rfl B 5 i0 (.int .u8 0) 1 1 Ybad.underlying39 hi hz0 hz1 hz2 rfl (by decide) _ _ _ rfl (hu.alloc _) ⟨w.heap.size, 0, none⟩ 1 1 _ rfl rfl (cell_one _ _ _) (by intro u hu; simp at hu; subst hu; rfl) (by unfold maxLen; omega) (by omega) (by simp; omega) (by decide) ?_)
      intro u' w' h1 h2 h3
      go_wp2
      go_ret
      exact ⟨_, rfl, F1.out _ _ u' w' (by simp [mdl]) h1 h2 h3⟩
    have m3 : (c == 114) = false := by simp; omega
    by_cases h116 : c = 116
    · subst h116
      go_enter Ybad.func11, Ybad.ntmps11
      go_wp2_with (at_builtin; refine wpList_append_own2 _ rfl _ _ 39 rfl B 5 i0 (.int .u8 0) 1 1 Ybad.underlying39 hi hz0 hz1 hz2 rfl (by decide) _ _ _ rfl (hu.alloc _) ⟨w.heap.size, 0, none⟩ 1 1 _ rfl rfl (cell_one _ _ _) (by intro u hu; simp at hu; subst hu; rfl) (by unfold maxLen; omega) (by omega) (by simp; omega) (by decide) ?_)
      intro u' w' h1 h2 h3
      go_wp2
      go_ret
      exact ⟨_, rfl, F1.out _ _ u' w' (by simp [mdl]) h1 h2 h3⟩
    have m4 : (c == 116) = false := by simp; omega
    by_cases h90 : c = 90
    · subst h90
      go_enter Ybad.func11, Ybad.ntmps11
      go_wp2_with (at_builtin; refine wpList_append_own2 _ rfl _ _ 39 rfl B 5 i0 (.int .u8 0) 1 1 Ybad.underlying39 hi hz0 hz1 hz2 rfl (by decide) _ _ _ rfl (hu.alloc _) ⟨w.heap.size, 0, none⟩ 1 1 _ rfl rfl (cell_one _ _ _) (by intro u hu; simp at hu; subst hu; rfl) (by unfold maxLen; omega) (by omega) (by simp; omega) (by decide) ?_)
      intro u' w' h1 h2 h3
      go_wp2
      go_ret
      exact ⟨_, rfl, F1.out _ _ u' w' (by simp [mdl]) h1 h2 h3⟩
    have m5 : (c == 90) = false := by simp; omega
    have Hm : Hid (mdl c = [.int .u8 c]) := by show mdl c = _; simp [mdl, hw, h48, h98, h110, h114, h116, h90]
    clear hw h48 h98 h110 h114 h116 h90
    go_enter Ybad.func11, Ybad.ntmps11
    go_wp2_with (at_builtin; refine wpList_append_own2 _ rfl _ _ 39 rfl B 5 i0 (.int .u8 0) 1 1 Ybad.underlying39 hi hz0 hz1 hz2 rfl (by decide) _ _ _ rfl (hu.alloc _) ⟨w.heap.size, 0, none⟩ 1 1 _ rfl rfl (cell_one _ _ _) (by intro u hu; simp at hu; subst hu; rfl) (by unfold maxLen; omega) (by omega) (by simp; omega) (by decide) ?_)
    intro u' w' h1 h2 h3
    go_wp2
    go_ret
    exact ⟨_, rfl, F1.out _ _ u' w' Hm.out h1 h2 h3⟩

theorem pick_any (x : Int) (w : World) (hx : 0 ≤ x ∧ x ≤ 255) :
    Calls Ybad.prog 12 #[.int .u8 x] w fun e w' => ∃ c : Int, e = .returned (.int .u8 c) ∧ 0 ≤ c ∧ c ≤ 255 ∧ w' = w := by
  obtain ⟨q, hq, hq14⟩ : ∃ q : Nat, x % 14 = (q : Int) ∧ q < 14 := ⟨(x % 14).toNat, by omega, by omega⟩
  have : q = 0 ∨ q = 1 ∨ q = 2 ∨ q = 3 ∨ q = 4 ∨ q = 5 ∨ q = 6 ∨ q = 7 ∨ q = 8 ∨ q = 9 ∨ q = 10 ∨ q = 11 ∨ q = 12 ∨ q = 13 := by omega
  rcases this with rfl | rfl | rfl | rfl | rfl | rfl | rfl | rfl | rfl | rfl | rfl | rfl | rfl | rfl
  all_goals
    go_enter Ybad.func12, Ybad.ntmps12
    go_wp2
    go_ret
    exact ⟨_, rfl, by decide, by decide, rfl⟩

/-- the model's cells are bytes -/
theorem mdl_bytes (c : Int) (h : 0 ≤ c ∧ c ≤ 255) : ∃ l : List UInt8, mdl c = Lib.byteCells l ∧ l.length ≤ 2 := by
  have hc : ((UInt8.ofNat c.toNat).toNat : Int) = c := by
    rw [UInt8.toNat_ofNat']; omega
  unfold mdl
  split
  · exact ⟨[92, UInt8.ofNat c.toNat], by simp only [Lib.byteCells, List.map_cons, List.map_nil, hc]; rfl, by simp⟩
  split
  · exact ⟨[0], rfl, by decide⟩
  split
  · exact ⟨[8], rfl, by decide⟩
  split
  · exact ⟨[10], rfl, by decide⟩
  split
  · exact ⟨[13], rfl, by decide⟩
  split
  · exact ⟨[9], rfl, by decide⟩
  split
  · exact ⟨[26], rfl, by decide⟩
  · exact ⟨[UInt8.ofNat c.toNat], by simp only [Lib.byteCells, List.map_cons, List.map_nil, hc], by simp⟩
end Go.Proofs.YbulkchugDoor
