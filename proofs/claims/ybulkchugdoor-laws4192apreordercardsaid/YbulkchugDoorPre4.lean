import Derived.Test.YbulkchugDoorPre3
namespace Go.Proofs.YbulkchugDoor.Pre
open Go.RowKit
set_option linter.unusedVariables false
set_option linter.unusedSimpArgs false
set_option maxRecDepth 100000

def WalkPost (B ba : Nat) (u : Value) (xs cs : List Value) (w : World) (e : Ending) (w' : World) : Prop :=
  ∃ T b u', e = .returned (.iface T (.pointer (some ⟨b, 0, none⟩))) ∧ AllAt B ba u' (xs ++ cs) w' ∧ Fr ba ba u.ownBlock w w' ∧ Next w u.ownBlock u'.ownBlock

def WalkSaid (B f : Nat) : Prop :=
  ∀ (ba : Nat) (u : Value) (xs : List Value) (p : Value) (cs : List Value) (sl : Value) (ys : List Value) (w : World), AllAt B ba u xs w → PlanAt w (OK 0 ba ba u.ownBlock w) f p cs → AboveAt w (OK 0 ba ba u.ownBlock w) sl ys →
    xs.length + cs.length ≤ 1000000 → ys.length + cs.length ≤ 1000000 →
    Calls Ybad.prog 14 #[p, sl, .func (Fn.func 15) #[] #[.pointer (some ⟨ba, 0, none⟩)], .func (Fn.func 16) #[] #[]] w (WalkPost B ba u xs cs w)

/-- the type switch, by the program's own tables -/
theorem ta_yes58 (ad : Addr) (w : World) : (Instr.typeAssert (.iface 58 (.pointer (some ad))) 25 58 true).run Ybad.prog w = .ok (.tuple #[.pointer (some ad), .bool true]) w := by kernel_rfl
theorem ta_no58 (T : Nat) (hT : T = 52 ∨ T = 61 ∨ T = 35) (ad : Addr) (w : World) : (Instr.typeAssert (.iface T (.pointer (some ad))) 25 58 true).run Ybad.prog w = .ok (.tuple #[.pointer none, .bool false]) w := by
  rcases hT with rfl | rfl | rfl <;> kernel_rfl
theorem ta_yes35 (ad : Addr) (w : World) : (Instr.typeAssert (.iface 35 (.pointer (some ad))) 25 35 true).run Ybad.prog w = .ok (.tuple #[.pointer (some ad), .bool true]) w := by kernel_rfl
theorem ta_no35 (T : Nat) (hT : T = 52 ∨ T = 61) (ad : Addr) (w : World) : (Instr.typeAssert (.iface T (.pointer (some ad))) 25 35 true).run Ybad.prog w = .ok (.tuple #[.pointer none, .bool false]) w := by
  rcases hT with rfl | rfl <;> kernel_rfl

theorem leaf_any (v : Value) (w : World) : Calls Ybad.prog 16 #[v] w fun e w' => e = .returned v ∧ w' = w := by
  go_enter Ybad.func16, Ybad.ntmps16
  go_wp2
  go_ret
  exact ⟨rfl, rfl⟩

set_option maxHeartbeats 4000000 in
theorem walk_leaf (B : Nat) (T b : Nat) (hT : T = 52 ∨ T = 61) (ba : Nat) (u : Value) (xs : List Value) (sl : Value) (w : World) (hA : AllAt B ba u xs w) :
    Calls Ybad.prog 14 #[.iface T (.pointer (some ⟨b, 0, none⟩)), sl, .func (Fn.func 15) #[] #[.pointer (some ⟨ba, 0, none⟩)], .func (Fn.func 16) #[] #[]] w (WalkPost B ba u xs [] w) := by
  have t1 := ta_no58 T (by omega) ⟨b, 0, none⟩
  have t2 := ta_no35 T (by omega) ⟨b, 0, none⟩
  rcases hT with rfl | rfl
  all_goals
    go_enter Ybad.func14, Ybad.ntmps14
    go_wp2_with (go_at_call 16; refine (leaf_any _ _).mono ?_; rintro e w' ⟨rfl, rfl⟩)
    go_ret
    exact ⟨_, _, u, rfl, by simpa using hA, Fr.refl _ _ _ _, Next.refl _ _⟩

/-- a step in which all that was there stays -/
theorem ok_below {B b1 b2 : Nat} {r : Option Nat} {w w' : World} (hb : Below w.heap.size w w') : ∀ k, OK B b1 b2 r w k → w'.heap[k]? = w.heap[k]? ∧ OK B b1 b2 r w' k := by
  rintro k ⟨h1, h2, h3, h4, h5⟩
  exact ⟨hb.block k h2, h1, Nat.lt_of_lt_of_le h2 hb.size, h3, h4, h5⟩

theorem heap_ok {B b1 b2 b : Nat} {r r' : Option Nat} {w w' : World} {o : Obj} (h : w.heap[b]? = some o) (hb : OK B b1 b2 r w b) (hk : ∀ k, OK B b1 b2 r w k → w'.heap[k]? = w.heap[k]? ∧ OK B b1 b2 r' w' k) : w'.heap[b]? = some o ∧ OK B b1 b2 r' w' b :=
  ⟨((hk b hb).1).trans h, (hk b hb).2⟩

theorem AllAt.setCell {B ba : Nat} {u : Value} {xs : List Value} {w : World} (h : AllAt B ba u xs w) (k j : Nat) (v : Value) (h1 : k ≠ ba) (h2 : u.ownBlock ≠ some k) : AllAt B ba u xs (w.setCell ⟨k, j, none⟩ v) := by
  obtain ⟨s1, s5, s6⟩ := h
  have hgr : w.grownBy (w.setCell ⟨k, j, none⟩ v) (some k) := ⟨rfl, rfl, rfl, by simp [World.setCell], fun i _ hi => Below.heap_setCell _ _ _ _ (fun e => hi (by simp [e]))⟩
  exact ⟨s1, (Below.heap_setCell _ _ _ _ (by simp; omega)).trans s5, s6.kept hgr (.inr h2)⟩

theorem next_ne {w : World} {r r' : Option Nat} (h : Next w r r') (k : Nat) (h1 : r ≠ some k) (h2 : k < w.heap.size) : r' ≠ some k := by
  rcases h with rfl | ⟨j, rfl, hj⟩
  · exact h1
  · intro e; injection e with e; omega

theorem ok_and {ok ok' : Nat → Prop} {w w' : World} {n : Nat} (h : ∀ k, ok k → w'.heap[k]? = w.heap[k]? ∧ ok' k) : ∀ k, (ok k ∧ k < n) → w'.heap[k]? = w.heap[k]? ∧ (ok' k ∧ k < n) :=
  fun k hk => ⟨(h k hk.1).1, (h k hk.1).2, hk.2⟩
theorem ok_lt {B b1 b2 : Nat} {r : Option Nat} {w : World} : ∀ k, OK B b1 b2 r w k → w.heap[k]? = w.heap[k]? ∧ (OK B b1 b2 r w k ∧ k < w.heap.size) :=
  fun k hk => ⟨rfl, hk, hk.2.1⟩

set_option maxHeartbeats 4000000 in
theorem walk_sel (B f : Nat) (ih : WalkSaid B f) (ba : Nat) (u : Value) (xs : List Value) (sl : Value) (ys : List Value) (w : World) (hA : AllAt B ba u xs w) (hY : AboveAt w (OK 0 ba ba u.ownBlock w) sl ys)
    (b : Nat) (os : Value) (zs : List Value) (q : Value) (cs : List Value) (hb : OK 0 ba ba u.ownBlock w b) (hh : w.heap[b]? = some (.cells #[os, q] 60 (0, 0))) (hC : Conds w (OK 0 ba ba u.ownBlock w) os zs) (hP : PlanAt w (OK 0 ba ba u.ownBlock w) f q cs)
    (b1 : xs.length + (zs ++ cs).length ≤ 1000000) (b2 : ys.length + (zs ++ cs).length ≤ 1000000) :
    Calls Ybad.prog 14 #[.iface 58 (.pointer (some ⟨b, 0, none⟩)), sl, .func (Fn.func 15) #[] #[.pointer (some ⟨ba, 0, none⟩)], .func (Fn.func 16) #[] #[]] w (WalkPost B ba u xs (zs ++ cs) w) := by
  have t1 := ta_yes58 ⟨b, 0, none⟩
  have hnf : ∀ (ad : Addr) (w : World), (binOp .neq 69 (.func (Fn.func 15) #[] #[.pointer (some ad)]) .nilFunc).run Ybad.prog w = .ok (.bool true) w := fun _ _ => by kernel_rfl
  have hmk : ∀ w : World, (Instr.makeSlice 77 (.int .i64 1) (.int .i64 1)).run Ybad.prog w = .ok (.slice (some ⟨w.heap.size, 0, none⟩) 1 1) (w.alloc (.cells #[.nilIface] 25)) := fun _ => by kernel_rfl
  simp only [List.length_append] at b1 b2
  have IH := hid ih; have HA := hid hA; have HY := hid hY; have HC := hid hC; have HP := hid hP; have HH := hid hh; have HB := hid hb
  obtain ⟨ao, sn, sc, rfl⟩ := hC.slice
  obtain ⟨yo, yn, yc, rfl⟩ := hY.slice
  obtain ⟨T, pb, rfl⟩ := hP.iface
  have c0 : w.cell? ⟨b, 0, none⟩ = some (.slice ao sn sc) := by rw [cell_of hh]; rfl
  clear ih hA hY hC hP hh hb
  go_enter Ybad.func14, Ybad.ntmps14
  go_wp2_with fail
  refine (gather B ba u _ xs zs w HA.out HC.out.src (by omega)).mono ?_
  rintro e w1 ⟨u1, rfl, hA1, hF1, hN1⟩
  have HA1 := hid hA1; have HF1 := hid hF1; have HN1 := hid hN1
  have l1 := hF1.size
  clear hA1 hF1 hN1 c0
  go_wp2_with fail
  -- everything moved to the world behind the closure and the list of lists
  have K1 := ok_step (B := 0) HF1.out HN1.out
  have bel1 : Below w1.heap.size w1 (w1.alloc (.cells #[.slice yo yn yc, .slice ao sn sc] 23)) := (Below.refl _ _).alloc (Nat.le_refl _) _
  have Y2 := hid ((HY.out.move K1).move (ok_below (r := u1.ownBlock) bel1))
  have C2 := hid ((HC.out.move K1).move (ok_below (r := u1.ownBlock) bel1))
  have P2 := hid (PlanAt.move (ok_below (r := u1.ownBlock) bel1) f _ cs (PlanAt.move K1 f _ cs HP.out))
  have H1 := heap_ok HH.out HB.out K1
  have H2 := hid (heap_ok H1.1 H1.2 (ok_below bel1))
  have A2 := hid (HA1.out.frame bel1)
  have F2 := hid (HF1.out.alloc (.cells #[.slice yo yn yc, .slice ao sn sc] 23))
  have hl := heap_alloc_new w1 (.cells #[.slice yo yn yc, .slice ao sn sc] 23)
  have l2 : w1.heap.size < (w1.alloc (.cells #[.slice yo yn yc, .slice ao sn sc] 23)).heap.size := by simp
  clear K1 bel1 H1
  generalize w1.alloc (.cells #[.slice yo yn yc, .slice ao sn sc] 23) = W2 at *
  refine (concat_any _ _ ys zs w1.heap.size W2 hl Y2.out.src C2.out.src (by omega)).mono ?_
  rintro e w3 ⟨v3, rfl, hown3, hb3⟩
  have Ifs3 : Ifs (ys ++ zs) := by
    intro x hx
    rcases List.mem_append.1 hx with h | h
    · exact Y2.out.1 x h
    · exact C2.out.1 x h
  have A3 := hid (A2.out.frame hb3)
  have Y3 := hid (AboveAt.of_own (ok := OK 0 ba ba u1.ownBlock w3) hown3 Ifs3 (fun k hk => by
    have hk2 := hown3.lt k hk
    have hba := heap_lt A2.out.2.1
    refine ⟨Nat.zero_le _, hk2.2, by omega, by omega, fun e => ?_⟩
    have := (A2.out.2.2.lt k e.symm).2
    omega))
  have P3 := hid (PlanAt.move (ok_below (r := u1.ownBlock) hb3) f _ cs P2.out)
  have H3 := hid (heap_ok H2.out.1 H2.out.2 (ok_below hb3))
  have F3 := hid (F2.out.trans HN1.out (Fr.of_below (b1 := ba) (b2 := ba) (r := u1.ownBlock) hb3))
  have l3 := hb3.size
  have hv3 : ∃ ao n c, v3 = .slice ao n c := by
    rcases hown3.2 with ⟨hv, _⟩ | ⟨g, cap, cur, hv, _⟩
    · exact ⟨_, _, _, hv⟩
    · exact ⟨_, _, _, hv⟩
  obtain ⟨vo, vn, vc, rfl⟩ := hv3
  clear hown3 hb3 hl Ifs3
  go_wp2_with fail
  refine (sel_inputs b _ (.iface T (.pointer (some ⟨pb, 0, none⟩))) T pb w3 H3.out.1).mono ?_
  rintro e w4 ⟨rfl, hin4, hb4⟩
  have l4 := hb4.size
  have l4' := heap_lt hin4
  have bel5 : Below w4.heap.size w4 (w4.alloc (.cells #[.nilIface] 25)) := (Below.refl _ _).alloc (Nat.le_refl _) _
  have bel35 : Below w3.heap.size w3 (w4.alloc (.cells #[.nilIface] 25)) := hb4.trans (bel5.mono (by omega))
  have A5 := hid (A3.out.frame bel35)
  have Y5 := hid (Y3.out.move (ok_below (r := u1.ownBlock) bel35))
  have P5 := hid (PlanAt.move (ok_below (r := u1.ownBlock) bel35) f _ cs P3.out)
  have H5 := hid (heap_ok H3.out.1 H3.out.2 (ok_below bel35))
  have F5 := hid (F3.out.trans HN1.out (Fr.of_below (b1 := ba) (b2 := ba) (r := u1.ownBlock) bel35))
  have hout5 := heap_alloc_new w4 (.cells #[.nilIface] 25)
  have l5 : w4.heap.size < (w4.alloc (.cells #[.nilIface] 25)).heap.size := by simp
  have cin : (w4.alloc (.cells #[.nilIface] 25)).cell? ⟨w3.heap.size, 0, none⟩ = some (.iface T (.pointer (some ⟨pb, 0, none⟩))) := by
    rw [cell_of ((Below.heap_alloc w4 _ _ (by omega)).trans hin4)]; rfl
  have hba := heap_lt A3.out.2.1
  have OKout : OK 0 ba ba u1.ownBlock (w4.alloc (.cells #[.nilIface] 25)) w4.heap.size := ⟨Nat.zero_le _, l5, by omega, by omega, fun e => by have := (A3.out.2.2.lt _ e.symm).2; omega⟩
  have HO5 := hid (And.intro hout5 OKout)
  clear hout5 OKout bel5 bel35 hb4 hin4
  go_wp2
  refine wp_loop_rounds 2 ?_
  rw [rounds_succ]
  go_wp2_with fail
  generalize w4.alloc (.cells #[.nilIface] 25) = W5 at *
  refine (IH.out ba u1 (xs ++ zs) _ cs _ (ys ++ zs) W5 A5.out P5.out Y5.out (by simp; omega) (by simp; omega)).mono ?_
  rintro e w6 ⟨T6, b6, u6, rfl, hA6, hF6, hN6⟩
  have K6 := ok_step (B := 0) hF6 hN6
  have HO6 := heap_ok HO5.out.1 HO5.out.2 K6
  have H6 := heap_ok H5.out.1 H5.out.2 K6
  have cout : w6.cell? ⟨w4.heap.size, 0, none⟩ = some .nilIface := by rw [cell_of HO6.1]; rfl
  have fout := frozen_of HO6.1 0
  have l6 := hF6.size
  have hO7 := heap_set HO6.1 0 (.iface T6 (.pointer (some ⟨b6, 0, none⟩)))
  have hne : b ≠ w4.heap.size := by have := heap_lt H3.out.1; omega
  have hH7 : (w6.setCell ⟨w4.heap.size, 0, none⟩ (.iface T6 (.pointer (some ⟨b6, 0, none⟩)))).heap[b]? = some (.cells #[.slice ao sn sc, .iface T (.pointer (some ⟨pb, 0, none⟩))] 60 (0, 0)) := by
    rw [Below.heap_setCell _ _ _ _ hne]; exact H6.1
  have HO7 := hid hO7; have HH7 := hid hH7; have HA6 := hid hA6; have HF6 := hid hF6; have HN6 := hid hN6
  clear hO7 hH7 hA6 hF6 hN6 K6 HO6 H6 cin
  go_wp2
  rw [rounds_succ]
  go_wp2_with fail
  refine (sel_with b ao sn sc _ w4.heap.size T6 b6 _ HH7.out HO7.out).mono ?_
  rintro e w8 ⟨⟨T8, b8, rfl⟩, hb8⟩
  have hu6 : u6.ownBlock ≠ some w4.heap.size := next_ne HN6.out _ (fun e => HO5.out.2.2.2.2.2 e.symm) (by omega)
  have A7 := (HA6.out.setCell w4.heap.size 0 (.iface T6 (.pointer (some ⟨b6, 0, none⟩))) (by omega) hu6).frame hb8
  have F7 := ((F5.out.trans HN1.out HF6.out).setCell w4.heap.size 0 (.iface T6 (.pointer (some ⟨b6, 0, none⟩))) (.inr (.inr (by omega)))).trans (Next.refl _ _) (Fr.of_below hb8)
  have N7 : Next w u.ownBlock u6.ownBlock := HN1.out.trans HN6.out (by omega)
  have HA7 := hid A7; have HF7 := hid F7; have HN7 := hid N7
  clear A7 F7 N7 hu6 hb8
  go_wp2
  go_ret
  exact ⟨_, _, u6, rfl, by rw [← List.append_assoc]; exact HA7.out, HF7.out, HN7.out⟩
set_option maxHeartbeats 4000000 in
theorem walk_join (B f : Nat) (ih : WalkSaid B f) (ba : Nat) (u : Value) (xs : List Value) (sl : Value) (ys : List Value) (w : World) (hA : AllAt B ba u xs w) (hY : AboveAt w (OK 0 ba ba u.ownBlock w) sl ys)
    (b : Nat) (os : Value) (zs : List Value) (q : Value) (cs : List Value) (q2 : Value) (cs2 : List Value) (hb : OK 0 ba ba u.ownBlock w b) (hh : w.heap[b]? = some (.cells #[.int .i64 0, os, q, q2] 37 (0, 0))) (hC : Conds w (OK 0 ba ba u.ownBlock w) os zs) (hP : PlanAt w (OK 0 ba ba u.ownBlock w) f q cs) (hP2 : PlanAt w (OK 0 ba ba u.ownBlock w) f q2 cs2)
    (b1 : xs.length + (zs ++ (cs ++ cs2)).length ≤ 1000000) (b2 : ys.length + (zs ++ (cs ++ cs2)).length ≤ 1000000) :
    Calls Ybad.prog 14 #[.iface 35 (.pointer (some ⟨b, 0, none⟩)), sl, .func (Fn.func 15) #[] #[.pointer (some ⟨ba, 0, none⟩)], .func (Fn.func 16) #[] #[]] w (WalkPost B ba u xs (zs ++ (cs ++ cs2)) w) := by
  have t1 := ta_yes35 ⟨b, 0, none⟩
  have t2 := ta_no58 35 (by omega) ⟨b, 0, none⟩
  have hnf : ∀ (ad : Addr) (w : World), (binOp .neq 69 (.func (Fn.func 15) #[] #[.pointer (some ad)]) .nilFunc).run Ybad.prog w = .ok (.bool true) w := fun _ _ => by kernel_rfl
  have hmk : ∀ w : World, (Instr.makeSlice 77 (.int .i64 2) (.int .i64 2)).run Ybad.prog w = .ok (.slice (some ⟨w.heap.size, 0, none⟩) 2 2) (w.alloc (.cells #[.nilIface, .nilIface] 25)) := fun _ => by kernel_rfl
  simp only [List.length_append] at b1 b2
  have IH := hid ih; have HA := hid hA; have HY := hid hY; have HC := hid hC; have HP := hid hP; have HQ := hid hP2; have HH := hid hh; have HB := hid hb
  obtain ⟨ao, sn, sc, rfl⟩ := hC.slice
  obtain ⟨yo, yn, yc, rfl⟩ := hY.slice
  obtain ⟨T, pb, rfl⟩ := hP.iface
  obtain ⟨T2, pb2, rfl⟩ := hP2.iface
  have c0 : w.cell? ⟨b, 1, none⟩ = some (.slice ao sn sc) := by rw [cell_of hh]; rfl
  have ck : w.cell? ⟨b, 0, none⟩ = some (.int .i64 0) := by rw [cell_of hh]; rfl
  clear ih hA hY hC hP hP2 hh hb
  go_enter Ybad.func14, Ybad.ntmps14
  go_wp2_with fail
  refine (gather B ba u _ xs zs w HA.out HC.out.src (by omega)).mono ?_
  rintro e w1 ⟨u1, rfl, hA1, hF1, hN1⟩
  have HA1 := hid hA1; have HF1 := hid hF1; have HN1 := hid hN1
  have l1 := hF1.size
  clear hA1 hF1 hN1 c0 ck
  go_wp2_with fail
  -- everything moved to the world behind the closure and the list of lists
  have K1 := ok_step (B := 0) HF1.out HN1.out
  have bel1 : Below w1.heap.size w1 (w1.alloc (.cells #[.slice yo yn yc, .slice ao sn sc] 23)) := (Below.refl _ _).alloc (Nat.le_refl _) _
  have Y2 := hid ((HY.out.move K1).move (ok_below (r := u1.ownBlock) bel1))
  have C2 := hid ((HC.out.move K1).move (ok_below (r := u1.ownBlock) bel1))
  have P2 := hid (PlanAt.move (ok_below (r := u1.ownBlock) bel1) f _ cs (PlanAt.move K1 f _ cs HP.out))
  have Q2 := hid (PlanAt.move (ok_below (r := u1.ownBlock) bel1) f _ cs2 (PlanAt.move K1 f _ cs2 HQ.out))
  have H1 := heap_ok HH.out HB.out K1
  have H2 := hid (heap_ok H1.1 H1.2 (ok_below bel1))
  have A2 := hid (HA1.out.frame bel1)
  have F2 := hid (HF1.out.alloc (.cells #[.slice yo yn yc, .slice ao sn sc] 23))
  have hl := heap_alloc_new w1 (.cells #[.slice yo yn yc, .slice ao sn sc] 23)
  have l2 : w1.heap.size < (w1.alloc (.cells #[.slice yo yn yc, .slice ao sn sc] 23)).heap.size := by simp
  clear K1 bel1 H1
  generalize w1.alloc (.cells #[.slice yo yn yc, .slice ao sn sc] 23) = W2 at *
  refine (concat_any _ _ ys zs w1.heap.size W2 hl Y2.out.src C2.out.src (by omega)).mono ?_
  rintro e w3 ⟨v3, rfl, hown3, hb3⟩
  have Ifs3 : Ifs (ys ++ zs) := by
    intro x hx
    rcases List.mem_append.1 hx with h | h
    · exact Y2.out.1 x h
    · exact C2.out.1 x h
  have A3 := hid (A2.out.frame hb3)
  have Y3 := hid (AboveAt.of_own (ok := OK 0 ba ba u1.ownBlock w3) hown3 Ifs3 (fun k hk => by
    have hk2 := hown3.lt k hk
    have hba := heap_lt A2.out.2.1
    refine ⟨Nat.zero_le _, hk2.2, by omega, by omega, fun e => ?_⟩
    have := (A2.out.2.2.lt k e.symm).2
    omega))
  have P3 := hid (PlanAt.move (ok_below (r := u1.ownBlock) hb3) f _ cs P2.out)
  have Q3 := hid (PlanAt.move (ok_below (r := u1.ownBlock) hb3) f _ cs2 Q2.out)
  have H3 := hid (heap_ok H2.out.1 H2.out.2 (ok_below hb3))
  have F3 := hid (F2.out.trans HN1.out (Fr.of_below (b1 := ba) (b2 := ba) (r := u1.ownBlock) hb3))
  have l3 := hb3.size
  have hv3 : ∃ ao n c, v3 = .slice ao n c := by
    rcases hown3.2 with ⟨hv, _⟩ | ⟨g, cap, cur, hv, _⟩
    · exact ⟨_, _, _, hv⟩
    · exact ⟨_, _, _, hv⟩
  obtain ⟨vo, vn, vc, rfl⟩ := hv3
  clear hown3 hb3 hl Ifs3
  go_wp2_with fail
  refine (join_inputs b _ T pb T2 pb2 w3 H3.out.1).mono ?_
  rintro e w4 ⟨rfl, hin4, hb4⟩
  have l4 := hb4.size
  have l4' := heap_lt hin4
  have bel5 : Below w4.heap.size w4 (w4.alloc (.cells #[.nilIface, .nilIface] 25)) := (Below.refl _ _).alloc (Nat.le_refl _) _
  have bel35 : Below w3.heap.size w3 (w4.alloc (.cells #[.nilIface, .nilIface] 25)) := hb4.trans (bel5.mono (by omega))
  have A5 := hid (A3.out.frame bel35)
  have Y5 := hid (Y3.out.move (ok_below (r := u1.ownBlock) bel35))
  have P5 := hid (PlanAt.move (ok_below (r := u1.ownBlock) bel35) f _ cs P3.out)
  have Q5 := hid (PlanAt.move (ok_and (n := w3.heap.size) (ok_below (B := 0) (b1 := ba) (b2 := ba) (r := u1.ownBlock) bel35)) f _ cs2 (PlanAt.move ok_lt f _ cs2 Q3.out))
  have YY5 := hid ((Y3.out.move ok_lt).move (ok_and (n := w3.heap.size) (ok_below (B := 0) (b1 := ba) (b2 := ba) (r := u1.ownBlock) bel35)))
  have H5 := hid (heap_ok H3.out.1 H3.out.2 (ok_below bel35))
  have F5 := hid (F3.out.trans HN1.out (Fr.of_below (b1 := ba) (b2 := ba) (r := u1.ownBlock) bel35))
  have hout5 := heap_alloc_new w4 (.cells #[.nilIface, .nilIface] 25)
  have l5 : w4.heap.size < (w4.alloc (.cells #[.nilIface, .nilIface] 25)).heap.size := by simp
  have cin : (w4.alloc (.cells #[.nilIface, .nilIface] 25)).cell? ⟨w3.heap.size, 0, none⟩ = some (.iface T (.pointer (some ⟨pb, 0, none⟩))) := by
    rw [cell_of ((Below.heap_alloc w4 _ _ (by omega)).trans hin4)]; rfl
  have OKin : OK 0 ba ba u1.ownBlock (w4.alloc (.cells #[.nilIface, .nilIface] 25)) w3.heap.size := ⟨Nat.zero_le _, by omega, by have := heap_lt A3.out.2.1; omega, by have := heap_lt A3.out.2.1; omega, fun e => by have := (A3.out.2.2.lt _ e.symm).2; omega⟩
  have HI5 := hid (And.intro ((Below.heap_alloc w4 (.cells #[.nilIface, .nilIface] 25) _ (by omega)).trans hin4) OKin)
  clear OKin
  have hba := heap_lt A3.out.2.1
  have OKout : OK 0 ba ba u1.ownBlock (w4.alloc (.cells #[.nilIface, .nilIface] 25)) w4.heap.size := ⟨Nat.zero_le _, l5, by omega, by omega, fun e => by have := (A3.out.2.2.lt _ e.symm).2; omega⟩
  have HO5 := hid (And.intro hout5 OKout)
  clear hout5 OKout bel5 bel35 hb4 hin4
  go_wp2
  refine wp_loop_rounds 3 ?_
  rw [rounds_succ]
  go_wp2_with fail
  generalize w4.alloc (.cells #[.nilIface, .nilIface] 25) = W5 at *
  refine (IH.out ba u1 (xs ++ zs) _ cs _ (ys ++ zs) W5 A5.out P5.out Y5.out (by simp; omega) (by simp; omega)).mono ?_
  rintro e w6 ⟨T6, b6, u6, rfl, hA6, hF6, hN6⟩
  have K6 := ok_step (B := 0) hF6 hN6
  have HO6 := heap_ok HO5.out.1 HO5.out.2 K6
  have HI6 := heap_ok HI5.out.1 HI5.out.2 K6
  have H6 := heap_ok H5.out.1 H5.out.2 K6
  have Y6 := YY5.out.move (ok_and (n := w3.heap.size) K6)
  have Q6 := PlanAt.move (ok_and (n := w3.heap.size) K6) f _ cs2 Q5.out
  have cout : w6.cell? ⟨w4.heap.size, 0, none⟩ = some .nilIface := by rw [cell_of HO6.1]; rfl
  have fout := frozen_of HO6.1 0
  have l6 := hF6.size
  have hO7 := heap_set HO6.1 0 (.iface T6 (.pointer (some ⟨b6, 0, none⟩)))
  have hne : b ≠ w4.heap.size := by have := heap_lt H3.out.1; omega
  have hu6 : u6.ownBlock ≠ some w4.heap.size := next_ne hN6 _ (fun e => HO5.out.2.2.2.2.2 e.symm) (by omega)
  -- the store into out[0]: a step that turns one block of the walk's own
  have A7 := hid (hA6.setCell w4.heap.size 0 (.iface T6 (.pointer (some ⟨b6, 0, none⟩))) (by omega) hu6)
  have F7 := hid ((F5.out.trans HN1.out hF6).setCell w4.heap.size 0 (.iface T6 (.pointer (some ⟨b6, 0, none⟩))) (.inr (.inr (by omega))))
  have N7 := hid (show Next w u.ownBlock u6.ownBlock from HN1.out.trans hN6 (by omega))
  have K7 : ∀ k, (OK 0 ba ba u6.ownBlock w6 k ∧ k ≠ w4.heap.size) → (w6.setCell ⟨w4.heap.size, 0, none⟩ (.iface T6 (.pointer (some ⟨b6, 0, none⟩)))).heap[k]? = w6.heap[k]? ∧ OK 0 ba ba u6.ownBlock (w6.setCell ⟨w4.heap.size, 0, none⟩ (.iface T6 (.pointer (some ⟨b6, 0, none⟩)))) k := by
    rintro k ⟨⟨h1, h2, h3, h4, h5⟩, h6⟩
    exact ⟨Below.heap_setCell _ _ _ _ h6, h1, by simpa [World.setCell] using h2, h3, h4, h5⟩
  have K7' : ∀ k, (OK 0 ba ba u6.ownBlock w6 k ∧ k < w3.heap.size) → (w6.setCell ⟨w4.heap.size, 0, none⟩ (.iface T6 (.pointer (some ⟨b6, 0, none⟩)))).heap[k]? = w6.heap[k]? ∧ OK 0 ba ba u6.ownBlock (w6.setCell ⟨w4.heap.size, 0, none⟩ (.iface T6 (.pointer (some ⟨b6, 0, none⟩)))) k :=
    fun k hk => K7 k ⟨hk.1, by have := hk.2; omega⟩
  have Y7 := hid (Y6.move K7')
  have Q7 := hid (PlanAt.move K7' f _ cs2 Q6)
  have H7 := hid (And.intro ((K7 b ⟨H6.2, hne⟩).1.trans H6.1) (K7 b ⟨H6.2, hne⟩).2)
  have I7 := hid (And.intro ((K7 w3.heap.size ⟨HI6.2, by omega⟩).1.trans HI6.1) (K7 w3.heap.size ⟨HI6.2, by omega⟩).2)
  have O7 := hid (And.intro hO7 (show OK 0 ba ba u6.ownBlock (w6.setCell ⟨w4.heap.size, 0, none⟩ (.iface T6 (.pointer (some ⟨b6, 0, none⟩)))) w4.heap.size from ⟨Nat.zero_le _, by have := heap_lt hO7; exact this, HO6.2.2.2.1, HO6.2.2.2.2.1, HO6.2.2.2.2.2⟩))
  have cin7 : (w6.setCell ⟨w4.heap.size, 0, none⟩ (.iface T6 (.pointer (some ⟨b6, 0, none⟩)))).cell? ⟨w3.heap.size, 1, none⟩ = some (.iface T2 (.pointer (some ⟨pb2, 0, none⟩))) := by rw [cell_of I7.out.1]; rfl
  have l7 : (w6.setCell ⟨w4.heap.size, 0, none⟩ (.iface T6 (.pointer (some ⟨b6, 0, none⟩)))).heap.size = w6.heap.size := by simp [World.setCell]
  clear K7 K7' hO7 H6 HI6 HO6 K6 Y6 Q6 hA6 hF6 hN6 cin hu6
  go_wp2
  rw [rounds_succ]
  go_wp2_with fail
  generalize w6.setCell ⟨w4.heap.size, 0, none⟩ (.iface T6 (.pointer (some ⟨b6, 0, none⟩))) = W7 at *
  refine (IH.out ba u6 (xs ++ zs ++ cs) _ cs2 _ (ys ++ zs) W7 A7.out Q7.out Y7.out (by simp; omega) (by simp; omega)).mono ?_
  rintro e w8 ⟨T8, b8, u8, rfl, hA8, hF8, hN8⟩
  have K8 := ok_step (B := 0) hF8 hN8
  have O8 := heap_ok O7.out.1 O7.out.2 K8
  have H8 := heap_ok H7.out.1 H7.out.2 K8
  have cout8 : w8.cell? ⟨w4.heap.size, 1, none⟩ = some .nilIface := by rw [cell_of O8.1]; rfl
  have fout8 := frozen_of O8.1 1
  have l8 := hF8.size
  have hO9 := heap_set O8.1 1 (.iface T8 (.pointer (some ⟨b8, 0, none⟩)))
  simp only [List.setIfInBounds_toArray, List.set_cons_zero, List.set_cons_succ] at hO9
  have hH9 : (w8.setCell ⟨w4.heap.size, 1, none⟩ (.iface T8 (.pointer (some ⟨b8, 0, none⟩)))).heap[b]? = some (.cells #[.int .i64 0, .slice ao sn sc, .iface T (.pointer (some ⟨pb, 0, none⟩)), .iface T2 (.pointer (some ⟨pb2, 0, none⟩))] 37 (0, 0)) := by
    rw [Below.heap_setCell _ _ _ _ hne]; exact H8.1
  have hu8 : u8.ownBlock ≠ some w4.heap.size := next_ne hN8 _ (fun e => O7.out.2.2.2.2.2 e.symm) (heap_lt O7.out.1)
  have HO9 := hid hO9; have HH9 := hid hH9; have HA8 := hid hA8; have HF8 := hid hF8; have HN8 := hid hN8; have HU8 := hid hu8
  clear hO9 hH9 hA8 hF8 hN8 K8 O8 H8 cin7 hu8
  go_wp2
  rw [rounds_succ]
  go_wp2_with fail
  refine (join_with b ao sn sc _ _ w4.heap.size T6 b6 T8 b8 _ HH9.out HO9.out).mono ?_
  rintro e w10 ⟨⟨T10, b10, rfl⟩, hb10⟩
  have A9 := (HA8.out.setCell w4.heap.size 1 (.iface T8 (.pointer (some ⟨b8, 0, none⟩))) (by omega) HU8.out).frame hb10
  have F9 := ((F7.out.trans N7.out HF8.out).setCell w4.heap.size 1 (.iface T8 (.pointer (some ⟨b8, 0, none⟩))) (.inr (.inr (by omega)))).trans (Next.refl _ _) (Fr.of_below hb10)
  have N9 : Next w u.ownBlock u8.ownBlock := N7.out.trans HN8.out (by omega)
  have HA9 := hid A9; have HF9 := hid F9; have HN9 := hid N9
  clear A9 F9 N9 hb10
  go_wp2
  go_ret
  exact ⟨_, _, u8, rfl, by simpa [List.append_assoc] using HA9.out, HF9.out, HN9.out⟩

theorem walk_any (B : Nat) : ∀ f, WalkSaid B f
  | 0 => fun _ _ _ _ _ _ _ _ _ hP _ _ _ => absurd hP (by simp [PlanAt])
  | f + 1 => by
    intro ba u xs p cs sl ys w hA hP hY b1 b2
    rcases hP with ⟨b, rfl, rfl⟩ | ⟨b, rfl, rfl⟩ | ⟨b, os, zs, q, cs', h1, rfl, h3, h4, h5, rfl⟩ | ⟨b, os, zs, l, cl, r, cr, h1, rfl, h3, h4, h5, h6, rfl⟩
    · exact walk_leaf B 52 b (.inl rfl) ba u xs sl w hA
    · exact walk_leaf B 61 b (.inr rfl) ba u xs sl w hA
    · exact walk_sel B f (walk_any B f) ba u xs sl ys w hA hY b os zs q cs' h1 h3 h4 h5 b1 b2
    · exact walk_join B f (walk_any B f) ba u xs sl ys w hA hY b os zs l cl r cr h1 h3 h4 h5 h6 b1 b2

set_option maxHeartbeats 1000000 in
/-- placeConds(p, above): the conditions of the place, in a row of its own -/
theorem place_any (f : Nat) (p : Value) (cs : List Value) (sl : Value) (ys : List Value) (w : World) (hP : PlanAt w (fun k => k < w.heap.size) f p cs) (hY : AboveAt w (fun k => k < w.heap.size) sl ys) (b1 : cs.length ≤ 500000) (b2 : ys.length ≤ 4) :
    Calls Ybad.prog 8 #[p, sl] w fun e w' => ∃ v, e = .returned v ∧ w'.ownsRow w.heap.size 32 1 v cs.length cs ∧ Below w.heap.size w w' := by
  have HP := hid hP; have HY := hid hY
  clear hP hY
  go_enter Ybad.func8, Ybad.ntmps8
  go_wp2_with fail
  have bel : Below w.heap.size w (w.alloc (.cells #[.slice none 0 0] 23)) := (Below.refl _ _).alloc (Nat.le_refl _) _
  have K : ∀ k, k < w.heap.size → (w.alloc (.cells #[.slice none 0 0] 23)).heap[k]? = w.heap[k]? ∧ OK 0 w.heap.size w.heap.size (Value.slice none 0 0).ownBlock (w.alloc (.cells #[.slice none 0 0] 23)) k :=
    fun k hk => ⟨Below.heap_alloc _ _ _ hk, Nat.zero_le _, by simp; omega, by omega, by omega, by simp [Value.ownBlock]⟩
  have hA : AllAt w.heap.size w.heap.size (.slice none 0 0) [] (w.alloc (.cells #[.slice none 0 0] 23)) := ⟨Nat.le_refl _, heap_alloc_new w _, World.ownsRow_nil _ _ _ _⟩
  refine (walk_any w.heap.size f w.heap.size (.slice none 0 0) [] p cs sl ys _ hA (PlanAt.move K f p cs HP.out) (HY.out.move K) (by simp; omega) (by omega)).mono ?_
  rintro e w1 ⟨T, b, u', rfl, hA1, hF1, hN1⟩
  have hb1 : Below w.heap.size w w1 := bel.trans (hF1.below (by simp) (Nat.le_refl _) (Nat.le_refl _) (fun k hk => by simp [Value.ownBlock] at hk))
  have c0 : w1.cell? ⟨w.heap.size, 0, none⟩ = some u' := by rw [cell_of hA1.2.1]; rfl
  have HA1 := hid hA1; have Hb1 := hid hb1
  have hu : ∃ ao n c, u' = .slice ao n c := by
    rcases hA1.2.2.2 with ⟨hv, _⟩ | ⟨g, cap, cur, hv, _⟩
    · exact ⟨_, _, _, hv⟩
    · exact ⟨_, _, _, hv⟩
  obtain ⟨ao, n, c, rfl⟩ := hu
  clear hA1 hF1 hN1 hb1 bel K hA
  go_wp2
  go_ret
  exact ⟨_, rfl, by simpa using HA1.out.2.2, Hb1.out⟩
end Go.Proofs.YbulkchugDoor.Pre
