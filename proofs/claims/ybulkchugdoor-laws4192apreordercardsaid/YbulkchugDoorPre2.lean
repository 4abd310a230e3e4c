import Derived.Test.YbulkchugDoorPre1
namespace Go.Proofs.YbulkchugDoor.Pre
open Go.RowKit
set_option linter.unusedVariables false
set_option linter.unusedSimpArgs false
set_option maxRecDepth 100000

theorem hid {p : Prop} (h : p) : Hid p := h

def OK (B b1 b2 : Nat) (r : Option Nat) (w : World) (k : Nat) : Prop := B ≤ k ∧ k < w.heap.size ∧ k ≠ b1 ∧ k ≠ b2 ∧ some k ≠ r

/-- a plan of depth below f lies in memory; cs: the conditions of its place, in preorder -/
def PlanAt (w : World) (ok : Nat → Prop) : Nat → Value → List Value → Prop
  | 0, _, _ => False
  | f + 1, p, cs =>
    (∃ b, p = .iface 52 (.pointer (some ⟨b, 0, none⟩)) ∧ cs = []) ∨
    (∃ b, p = .iface 61 (.pointer (some ⟨b, 0, none⟩)) ∧ cs = []) ∨
    (∃ b sl xs q cs', ok b ∧ p = .iface 58 (.pointer (some ⟨b, 0, none⟩)) ∧ w.heap[b]? = some (.cells #[sl, q] 60 (0, 0)) ∧ Conds w ok sl xs ∧ PlanAt w ok f q cs' ∧ cs = xs ++ cs') ∨
    (∃ b sl xs l cl r cr, ok b ∧ p = .iface 35 (.pointer (some ⟨b, 0, none⟩)) ∧ w.heap[b]? = some (.cells #[.int .i64 0, sl, l, r] 37 (0, 0)) ∧ Conds w ok sl xs ∧ PlanAt w ok f l cl ∧ PlanAt w ok f r cr ∧ cs = xs ++ (cl ++ cr))

theorem PlanAt.move {w w' : World} {ok ok' : Nat → Prop} (hk : ∀ k, ok k → w'.heap[k]? = w.heap[k]? ∧ ok' k) : ∀ (f : Nat) (p : Value) (cs : List Value), PlanAt w ok f p cs → PlanAt w' ok' f p cs
  | 0, _, _, h => h
  | f + 1, p, cs, h => by
    rcases h with h | h | ⟨b, sl, xs, q, cs', h1, h2, h3, h4, h5, h6⟩ | ⟨b, sl, xs, l, cl, r, cr, h1, h2, h3, h4, h5, h6, h7⟩
    · exact .inl h
    · exact .inr (.inl h)
    · exact .inr (.inr (.inl ⟨b, sl, xs, q, cs', (hk b h1).2, h2, ((hk b h1).1).trans h3, h4.move hk, PlanAt.move hk f q cs' h5, h6⟩))
    · exact .inr (.inr (.inr ⟨b, sl, xs, l, cl, r, cr, (hk b h1).2, h2, ((hk b h1).1).trans h3, h4.move hk, PlanAt.move hk f l cl h5, PlanAt.move hk f r cr h6, h7⟩))

theorem PlanAt.iface {w : World} {ok : Nat → Prop} {f : Nat} {p : Value} {cs : List Value} (h : PlanAt w ok f p cs) : ∃ T b, p = .iface T (.pointer (some ⟨b, 0, none⟩)) := by
  cases f with
  | zero => exact absurd h (by simp [PlanAt])
  | succ f =>
    rcases h with ⟨b, h, _⟩ | ⟨b, h, _⟩ | ⟨b, sl, xs, q, cs', h1, h2, _⟩ | ⟨b, sl, xs, l, cl, r, cr, h1, h2, _⟩
    · exact ⟨_, _, h⟩
    · exact ⟨_, _, h⟩
    · exact ⟨_, _, h2⟩
    · exact ⟨_, _, h2⟩

/-- what a step that keeps all but the mutable blocks does to the blocks of a tree -/
theorem ok_step {B b1 b2 : Nat} {r r' : Option Nat} {w w' : World} (hf : Fr b1 b2 r w w') (hn : Next w r r') : ∀ k, OK B b1 b2 r w k → w'.heap[k]? = w.heap[k]? ∧ OK B b1 b2 r' w' k := by
  rintro k ⟨h1, h2, h3, h4, h5⟩
  refine ⟨hf.2.2.2.2 k h2 h3 h4 h5, h1, Nat.lt_of_lt_of_le h2 hf.size, h3, h4, ?_⟩
  rcases hn with rfl | ⟨j, rfl, hj⟩
  · exact h5
  · intro e; injection e with e; omega

/-- the nodes: a row of pairs of bytes that came in -/
def NodesAt (B : Nat) (a : Option Addr) (len : Nat) (ks : Nat → Int × Int) (w : World) : Prop :=
  ∀ i, i < len → ∃ bb off, a = some ⟨bb, off, none⟩ ∧ bb < B ∧ w.cell? ⟨bb, off + i * 2, none⟩ = some (.int .u8 (ks i).1) ∧ w.cell? ⟨bb, off + i * 2 + 1, none⟩ = some (.int .u8 (ks i).2) ∧ 0 ≤ (ks i).1 ∧ (ks i).1 ≤ 255 ∧ 0 ≤ (ks i).2 ∧ (ks i).2 ≤ 255

theorem NodesAt.below {B : Nat} {a : Option Addr} {len : Nat} {ks : Nat → Int × Int} {w w' : World} (h : NodesAt B a len ks w) (hb : Below B w w') : NodesAt B a len ks w' := by
  intro i hi
  obtain ⟨bb, off, h1, h2, h3, h4, h5⟩ := h i hi
  exact ⟨bb, off, h1, h2, (hb.cell (p := ⟨bb, off + i * 2, none⟩) h2).trans h3, (hb.cell (p := ⟨bb, off + i * 2 + 1, none⟩) h2).trans h4, h5⟩

/-- the build's state: the index, the variable 'want' and its row -/
def St (B bi bw i : Nat) (u : Value) (xs : List Value) (w : World) : Prop :=
  B ≤ bi ∧ B ≤ bw ∧ bi ≠ bw ∧ w.heap[bi]? = some (.cells #[.int .i64 i] 3 (0, 0)) ∧ w.heap[bw]? = some (.cells #[u] 23 (0, 0)) ∧ w.ownsRow B 32 1 u xs.length xs

theorem info32 : (Ybad.prog.info? 32).map (fun i => (i.zero, i.size, i.bytes)) = some (some .nilIface, 1, 16) := by kernel_rfl

def wanted (inPlace : Bool) (cs : List Value) : List Value := match inPlace with | true => cs | false => []

def BuildPost (B len : Nat) (f bi bw i : Nat) (u : Value) (xs : List Value) (inPlace : Bool) (w : World) (e : Ending) (w' : World) : Prop :=
  ∃ p cs u' i', e = .returned p ∧ PlanAt w' (OK B bi bw u'.ownBlock w') f p cs ∧ St B bi bw i' u' (xs ++ wanted inPlace cs) w' ∧ i ≤ i' ∧ i' ≤ len ∧ cs.length ≤ 3 * (i' - i) ∧ Fr bi bw u.ownBlock w w' ∧ Next w u.ownBlock u'.ownBlock

def BuildSaid (B : Nat) (a : Option Addr) (len cap : Nat) (ks : Nat → Int × Int) (f : Nat) : Prop :=
  ∀ (bi bw i : Nat) (u : Value) (xs : List Value) (inPlace : Bool) (w : World), St B bi bw i u xs w → NodesAt B a len ks w → len - i < f → i ≤ len → xs.length + 3 * (len - i) ≤ 1000000 →
    Calls Ybad.prog 6 #[.slice a len cap, .pointer (some ⟨bi, 0, none⟩), .bool inPlace, .pointer (some ⟨bw, 0, none⟩)] w (BuildPost B len f bi bw i u xs inPlace w)

/-- the index moved on, the node boxed -/
theorem St.next {B bi bw i : Nat} {u : Value} {xs : List Value} {w : World} (h : St B bi bw i u xs w) (o : Obj) (i' : Nat) : St B bi bw i' u xs ((w.setCell ⟨bi, 0, none⟩ (.int .i64 i')).alloc o) := by
  obtain ⟨s1, s2, s3, s4, s5, s6⟩ := h
  have l1 := heap_lt s4
  have l2 := heap_lt s5
  have hz : (w.setCell ⟨bi, 0, none⟩ (.int .i64 i')).heap.size = w.heap.size := by simp [World.setCell]
  refine ⟨s1, s2, s3, ?_, ?_, ?_⟩
  · rw [Below.heap_alloc _ _ _ (by omega)]; exact heap_set s4 0 _
  · rw [Below.heap_alloc _ _ _ (by omega), Below.heap_setCell _ _ _ _ (by simp; omega)]; exact s5
  · have hgr : w.grownBy (w.setCell ⟨bi, 0, none⟩ (.int .i64 i')) (some bi) := ⟨rfl, rfl, rfl, by simp [World.setCell], fun k _ hk => Below.heap_setCell _ _ _ _ (fun e => hk (by simp [e]))⟩
    refine World.ownsRow.alloc (s6.kept hgr (.inr ?_)) _
    rcases s6.2 with ⟨rfl, _⟩ | ⟨g, cap, cur, rfl, _, hg, _⟩
    · simp [Value.ownBlock]
    · intro e
      simp only [Value.ownBlock, Option.some.injEq] at e
      subst e
      rw [s4] at hg
      simp at hg

theorem St.own_ne {B bi bw i : Nat} {u : Value} {xs : List Value} {w : World} (h : St B bi bw i u xs w) : u.ownBlock ≠ some bi ∧ u.ownBlock ≠ some bw := by
  obtain ⟨s1, s2, s3, s4, s5, s6⟩ := h
  rcases s6.2 with ⟨rfl, _⟩ | ⟨g, cap, cur, rfl, _, hg, _⟩
  · simp [Value.ownBlock]
  · constructor
    · intro e
      simp only [Value.ownBlock, Option.some.injEq] at e
      subst e
      rw [s4] at hg
      simp at hg
    · intro e
      simp only [Value.ownBlock, Option.some.injEq] at e
      subst e
      rw [s5] at hg
      simp at hg

theorem St.frame {B bi bw i : Nat} {u : Value} {xs : List Value} {w : World} (h : St B bi bw i u xs w) {w' : World} (hb : Below w.heap.size w w') : St B bi bw i u xs w' := by
  obtain ⟨s1, s2, s3, s4, s5, s6⟩ := h
  refine ⟨s1, s2, s3, (hb.block bi (heap_lt s4)).trans s4, (hb.block bw (heap_lt s5)).trans s5, s6.kept (row := none) ⟨hb.os, hb.tape, hb.output, hb.size, fun k hk _ => hb.block k hk⟩ ?_⟩
  cases hv : u.ownBlock
  · exact .inl rfl
  · exact .inr (by simp)

/-- conditions appended to 'want' and the slice stored back -/
theorem St.append {B bi bw i : Nat} {u u' : Value} {xs ys : List Value} {w w' : World} (h : St B bi bw i u xs w) (ho : w'.ownsRow B 32 1 u' (xs.length + ys.length) (xs ++ ys)) (hg : w.grownBy w' u.ownBlock) (hn : Next w u.ownBlock u'.ownBlock) :
    St B bi bw i u' (xs ++ ys) (w'.setCell ⟨bw, 0, none⟩ u') ∧ Fr bi bw u.ownBlock w (w'.setCell ⟨bw, 0, none⟩ u') ∧ w'.heap[bw]? = some (.cells #[u] 23 (0, 0)) := by
  obtain ⟨hne1, hne2⟩ := h.own_ne
  obtain ⟨s1, s2, s3, s4, s5, s6⟩ := h
  have l1 := heap_lt s4
  have l2 := heap_lt s5
  have e1 : w'.heap[bi]? = some (.cells #[.int .i64 i] 3 (0, 0)) := (hg.block bi l1 (fun e => hne1 e.symm)).trans s4
  have e2 : w'.heap[bw]? = some (.cells #[u] 23 (0, 0)) := (hg.block bw l2 (fun e => hne2 e.symm)).trans s5
  have hgr : w'.grownBy (w'.setCell ⟨bw, 0, none⟩ u') (some bw) := ⟨rfl, rfl, rfl, by simp [World.setCell], fun k _ hk => Below.heap_setCell _ _ _ _ (fun e => hk (by simp [e]))⟩
  refine ⟨⟨s1, s2, s3, ?_, heap_set e2 0 u', ?_⟩, ?_, e2⟩
  · rw [Below.heap_setCell _ _ _ _ (by simp; omega)]; exact e1
  · have := ho.kept hgr (.inr (by
      rcases ho.2 with ⟨rfl, _⟩ | ⟨g, cap, cur, rfl, _, hgg, _⟩
      · simp [Value.ownBlock]
      · intro e
        simp only [Value.ownBlock, Option.some.injEq] at e
        subst e
        rw [e2] at hgg
        simp at hgg))
    simpa using this
  · exact ((Fr.refl bi bw u.ownBlock w).grown (Next.refl _ _) hg).setCell bw 0 u' (.inr (.inl rfl))

theorem NodesAt.fr {B bi bw : Nat} {r : Option Nat} {a : Option Addr} {len : Nat} {ks : Nat → Int × Int} {w w' : World} (h : NodesAt B a len ks w) (hf : Fr bi bw r w w') (hB : B ≤ w.heap.size) (h1 : B ≤ bi) (h2 : B ≤ bw) (h3 : ∀ k, r = some k → B ≤ k) : NodesAt B a len ks w' :=
  h.below (hf.below hB h1 h2 h3)

theorem Conds.slice {w : World} {ok : Nat → Prop} {sl : Value} {xs : List Value} (h : Conds w ok sl xs) : ∃ ao n c, sl = .slice ao n c := by
  rcases h.2 with ⟨h, _⟩ | ⟨g, _, h, _⟩
  · exact ⟨_, _, _, h⟩
  · exact ⟨_, _, _, h⟩

theorem conds_ok {B bi bw : Nat} {u : Value} {W1 W2 : World} {sl : Value} {ys : List Value} (h : Conds W2 (fun k => W1.heap.size ≤ k ∧ k < W2.heap.size) sl ys) (hB : B ≤ W1.heap.size) (h1 : bi < W1.heap.size) (h2 : bw < W1.heap.size) (h3 : ∀ k, u.ownBlock = some k → k < W1.heap.size) :
    Conds W2 (OK B bi bw u.ownBlock W2) sl ys := by
  refine h.move (fun k hk => ⟨rfl, by omega, hk.2, by omega, by omega, fun e => ?_⟩)
  have := h3 k e.symm
  omega

theorem ok_alloc {B bi bw : Nat} {r : Option Nat} {w : World} (o : Obj) : ∀ k, OK B bi bw r w k → (w.alloc o).heap[k]? = w.heap[k]? ∧ OK B bi bw r (w.alloc o) k := by
  rintro k ⟨h1, h2, h3, h4, h5⟩
  exact ⟨Below.heap_alloc _ _ _ h2, h1, by simp; omega, h3, h4, h5⟩

theorem ok_new {B bi bw i : Nat} {u : Value} {xs : List Value} {w : World} (h : St B bi bw i u xs w) (o : Obj) : OK B bi bw u.ownBlock (w.alloc o) w.heap.size := by
  obtain ⟨s1, s2, s3, s4, s5, s6⟩ := h
  have l1 := heap_lt s4
  have l2 := heap_lt s5
  refine ⟨by omega, by simp, by omega, by omega, fun e => ?_⟩
  have := (s6.lt _ e.symm).2
  omega

set_option maxHeartbeats 4000000 in
theorem build_step (B : Nat) (a : Option Addr) (len cap : Nat) (ks : Nat → Int × Int) (hlen : len ≤ 512) (f : Nat) (ih : BuildSaid B a len cap ks f) : BuildSaid B a len cap ks (f + 1) := by
  intro bi bw i u xs inPlace w hst hN hf hi hb
  have IH : Hid (BuildSaid B a len cap ks f) := ih
  have HST : Hid (St B bi bw i u xs w) := hst
  have HN : Hid (NodesAt B a len ks w) := hN
  clear ih
  obtain ⟨i0, hinf, hz0, hz1, hz2⟩ := info_parts info32
  obtain ⟨s1, s2, s3, s4, s5, s6⟩ := hst
  have hown : ∀ k, u.ownBlock = some k → B ≤ k := fun k hk => (s6.lt k hk).1
  have Hown := hid hown
  have hownlt : ∀ k, u.ownBlock = some k → k < w.heap.size := fun k hk => (s6.lt k hk).2
  have Hownlt := hid hownlt
  have c1 : w.cell? ⟨bi, 0, none⟩ = some (.int .i64 i) := by rw [cell_of s4]; rfl
  have c2 : w.cell? ⟨bw, 0, none⟩ = some u := by rw [cell_of s5]; rfl
  have f1 := frozen_of s4 0
  have f2 := frozen_of s5 0
  have l1 := heap_lt s4
  have l2 := heap_lt s5
  clear s4 s5 s6 hown hownlt
  by_cases hil : i < len
  · obtain ⟨bb, off, ha, hbb, n1, n2, q1, q2, q3, q4⟩ := hN i hil
    have HA : Hid (a = some ⟨bb, off, none⟩) := ha
    rw [ha]
    clear hN ha
    generalize (ks i).1 = kd at *
    generalize (ks i).2 = nc at *
    have ht : ¬ (len : Int) ≤ (i : Int) := by omega
    have htd : decide ((len : Int) ≤ (i : Int)) = false := by simpa using ht
    have hil' : (i : Int) < (len : Int) := by omega
    -- behind the first rows: the index moved on, the node in a box
    have ecast : Hid ((i : Int) + 1 = ((i + 1 : Nat) : Int)) := by show (i : Int) + 1 = ((i + 1 : Nat) : Int); omega
    have S1 : Hid (∀ o, St B bi bw (i + 1) u xs ((w.setCell ⟨bi, 0, none⟩ (.int .i64 ((i : Int) + 1))).alloc o)) := fun o => by rw [ecast.out]; exact HST.out.next o (i + 1)
    have R1 : Hid (∀ o, Fr bi bw u.ownBlock w ((w.setCell ⟨bi, 0, none⟩ (.int .i64 ((i : Int) + 1))).alloc o)) := fun o => ((Fr.refl bi bw u.ownBlock w).setCell bi 0 _ (.inl rfl)).alloc o
    have N1 : Hid (∀ o, NodesAt B a len ks ((w.setCell ⟨bi, 0, none⟩ (.int .i64 ((i : Int) + 1))).alloc o)) := fun o => HN.out.fr (R1.out o) (by omega) s1 s2 Hown.out
    have hkd : kd % 4 = 0 ∨ kd % 4 = 1 ∨ kd % 4 = 2 ∨ kd % 4 = 3 := by omega
    have hnc : ∃ q : Nat, nc % 4 = (q : Int) ∧ q < 4 := ⟨(nc % 4).toNat, by omega, by omega⟩
    obtain ⟨q, hq, hq4⟩ := hnc
    rcases hkd with hk0 | hk0 | hk0 | hk0
    · go_enter Ybad.func6, Ybad.ntmps6
      go_wp2_with fail
      go_ret
      refine ⟨_, [], u, i + 1, rfl, .inl ⟨_, rfl, rfl⟩, ?_, by omega, by omega, by simp, (R1.out _).alloc _, Next.refl _ _⟩
      have := (S1.out (.cells #[.int .u8 kd, .int .u8 nc] 57)).frame ((Below.refl _ _).alloc (Nat.le_refl _) (.cells #[.pointer none, .string ⟨#[116]⟩] 55))
      cases inPlace <;> simpa [wanted] using this
    · -- a Selection
      go_enter Ybad.func6, Ybad.ntmps6
      go_wp2_with fail
      have T1 := S1.out (.cells #[.int .u8 kd, .int .u8 nc] 57)
      have T2 := R1.out (.cells #[.int .u8 kd, .int .u8 nc] 57)
      have T3 := N1.out (.cells #[.int .u8 kd, .int .u8 nc] 57)
      clear c1 c2 f1 f2 n1 n2 S1 R1 N1 ecast
      generalize (w.setCell ⟨bi, 0, none⟩ (.int .i64 ((i : Int) + 1))).alloc (.cells #[.int .u8 kd, .int .u8 nc] 57) = W1 at *
      refine (conds_any q (by omega) W1).mono ?_
      rintro e W2 ⟨sl, ys, rfl, hyl, hcd0, hb2⟩
      have l3 : w.heap.size ≤ W1.heap.size := T2.size
      have T4 := T1.frame hb2
      have hcd : Conds W2 (OK B bi bw u.ownBlock W2) sl ys := conds_ok hcd0 (by omega) (by omega) (by omega) (fun k hk => by have := Hownlt.out k hk; omega)
      have T5 : Fr bi bw u.ownBlock w W2 := T2.trans (Next.refl _ _) (Fr.of_below hb2)
      have T6 : NodesAt B a len ks W2 := T3.below (hb2.mono (by omega))
      clear hcd0
      have c2 : W2.cell? ⟨bw, 0, none⟩ = some u := by rw [cell_of T4.2.2.2.2.1]; rfl
      have f2 := frozen_of T4.2.2.2.2.1 0
      have l4 : W1.heap.size ≤ W2.heap.size := hb2.size
      have HT1 := hid T1; have HT2 := hid T2; have HT3 := hid T3; have HT4 := hid T4; have HT5 := hid T5; have HT6 := hid T6; have Hcd := hid hcd; have Hb2 := hid hb2
      have Hyl : Hid (ys.length = q) := hyl
      obtain ⟨ao, sn, sc, rfl⟩ := hcd.slice
      clear T1 T2 T3 T4 T5 T6 hcd hb2 hyl
      cases inPlace with
      | false =>
        go_wp2_with fail
        have IH2 := IH.out bi bw (i + 1) u xs false W2 HT4.out HT6.out (by omega) (by omega) (by omega)
        rw [HA.out] at IH2
        refine IH2.mono ?_
        rintro e W4 ⟨p', cs', u4, i4, rfl, hP, hS, h1, h2, h3, hF, hNx⟩
        have HP := hid hP; have HS := hid hS; have HF := hid hF; have HNx := hid hNx
        obtain ⟨T, pb, rfl⟩ := hP.iface
        clear hP hS hF hNx IH2
        go_wp2
        go_ret
        have hcd4 := (Hcd.out.move (ok_step HF.out HNx.out)).move (ok_alloc (.cells #[.slice ao sn sc, .iface T (.pointer (some ⟨pb, 0, none⟩))] 60))
        have hP4 := PlanAt.move (ok_alloc (.cells #[.slice ao sn sc, .iface T (.pointer (some ⟨pb, 0, none⟩))] 60)) f _ cs' HP.out
        refine ⟨_, ys ++ cs', u4, i4, rfl, .inr (.inr (.inl ⟨W4.heap.size, _, ys, _, cs', ok_new HS.out _, rfl, heap_alloc_new W4 _, hcd4, hP4, rfl⟩)), ?_, by omega, h2, ?_, ?_, ?_⟩
        · exact HS.out.frame ((Below.refl _ _).alloc (Nat.le_refl _) _)
        · have := Hyl.out; simp; omega
        · exact (HT5.out.trans (Next.refl _ _) HF.out).alloc _
        · exact (Next.refl w u.ownBlock).trans HNx.out (by omega)
      | true =>
        go_wp2_with (at_builtin; refine wpList_append_any _ rfl _ _ 23 rfl B 32 i0 .nilIface 16 Ybad.underlying23 hinf hz0 hz1 hz2 rfl _ _ _ rfl HT4.out.2.2.2.2.2 _ rfl ys Hcd.out.src ?a1 ?a2 ?a3 ?_)
        case a1 => have := Hyl.out; unfold maxLen; omega
        case a2 => have := Hyl.out; omega
        case a3 => omega
        intro u3 w3 hown3 hg3 hn3
        obtain ⟨S3, F3, e3⟩ := HT4.out.append hown3 hg3 hn3
        have c3 : w3.cell? ⟨bw, 0, none⟩ = some u := by rw [cell_of e3]; rfl
        have f3 := frozen_of e3 0
        have hu3 : ∃ ao3 n3 c3, u3 = .slice ao3 n3 c3 := by
          rcases hown3.2 with ⟨hv, _⟩ | ⟨g, cap, cur, hv, _⟩
          · exact ⟨_, _, _, hv⟩
          · exact ⟨_, _, _, hv⟩
        have HS3 := hid S3; have HF3 := hid F3; have HN3 := hid hn3
        have l5 : W2.heap.size ≤ w3.heap.size := hg3.size
        clear S3 F3 hn3 hown3 hg3 e3
        obtain ⟨ao3, n3, cc3, rfl⟩ := hu3
        have N3 : NodesAt B a len ks (w3.setCell ⟨bw, 0, none⟩ (.slice ao3 n3 cc3)) := HT6.out.fr HF3.out (by omega) s1 s2 Hown.out
        have HN3' := hid N3
        clear N3
        go_wp2_with fail
        have IH2 := IH.out bi bw (i + 1) (.slice ao3 n3 cc3) (xs ++ ys) true _ HS3.out HN3'.out (by omega) (by omega) (by have := Hyl.out; simp; omega)
        rw [HA.out] at IH2
        refine IH2.mono ?_
        rintro e W4 ⟨p', cs', u4, i4, rfl, hP, hS, h1, h2, h3, hF, hNx⟩
        have HP := hid hP; have HS := hid hS; have HF := hid hF; have HNx := hid hNx
        obtain ⟨T, pb, rfl⟩ := hP.iface
        clear hP hS hF hNx IH2
        go_wp2
        go_ret
        have hcd4 := ((Hcd.out.move (ok_step HF3.out HN3.out)).move (ok_step HF.out HNx.out)).move (ok_alloc (.cells #[.slice ao sn sc, .iface T (.pointer (some ⟨pb, 0, none⟩))] 60))
        have hP4 := PlanAt.move (ok_alloc (.cells #[.slice ao sn sc, .iface T (.pointer (some ⟨pb, 0, none⟩))] 60)) f _ cs' HP.out
        refine ⟨_, ys ++ cs', u4, i4, rfl, .inr (.inr (.inl ⟨W4.heap.size, _, ys, _, cs', ok_new HS.out _, rfl, heap_alloc_new W4 _, hcd4, hP4, rfl⟩)), ?_, by omega, h2, ?_, ?_, ?_⟩
        · have := HS.out.frame ((Below.refl _ _).alloc (Nat.le_refl _) (.cells #[.slice ao sn sc, .iface T (.pointer (some ⟨pb, 0, none⟩))] 60)); simpa [wanted, List.append_assoc] using this
        · have := Hyl.out; simp; omega
        · exact ((HT5.out.trans (Next.refl _ _) HF3.out).trans ((Next.refl _ _).trans HN3.out (by omega)) HF.out).alloc _
        · exact (((Next.refl w u.ownBlock).trans HN3.out (by omega)).trans HNx.out (by have := HF3.out.size; omega))
    · -- a Join
      go_enter Ybad.func6, Ybad.ntmps6
      go_wp2_with fail
      have T1 := S1.out (.cells #[.int .u8 kd, .int .u8 nc] 57)
      have T2 := R1.out (.cells #[.int .u8 kd, .int .u8 nc] 57)
      have T3 := N1.out (.cells #[.int .u8 kd, .int .u8 nc] 57)
      clear c1 c2 f1 f2 n1 n2 S1 R1 N1 ecast
      generalize (w.setCell ⟨bi, 0, none⟩ (.int .i64 ((i : Int) + 1))).alloc (.cells #[.int .u8 kd, .int .u8 nc] 57) = W1 at *
      refine (conds_any q (by omega) W1).mono ?_
      rintro e W2 ⟨sl, ys, rfl, hyl, hcd0, hb2⟩
      have l3 : w.heap.size ≤ W1.heap.size := T2.size
      have T4 := T1.frame hb2
      have hcd : Conds W2 (OK B bi bw u.ownBlock W2) sl ys := conds_ok hcd0 (by omega) (by omega) (by omega) (fun k hk => by have := Hownlt.out k hk; omega)
      have T5 : Fr bi bw u.ownBlock w W2 := T2.trans (Next.refl _ _) (Fr.of_below hb2)
      have T6 : NodesAt B a len ks W2 := T3.below (hb2.mono (by omega))
      clear hcd0
      have c2 : W2.cell? ⟨bw, 0, none⟩ = some u := by rw [cell_of T4.2.2.2.2.1]; rfl
      have f2 := frozen_of T4.2.2.2.2.1 0
      have l4 : W1.heap.size ≤ W2.heap.size := hb2.size
      have HT1 := hid T1; have HT2 := hid T2; have HT3 := hid T3; have HT4 := hid T4; have HT5 := hid T5; have HT6 := hid T6; have Hcd := hid hcd; have Hb2 := hid hb2
      have Hyl : Hid (ys.length = q) := hyl
      obtain ⟨ao, sn, sc, rfl⟩ := hcd.slice
      clear T1 T2 T3 T4 T5 T6 hcd hb2 hyl
      cases inPlace with
      | false =>
        go_wp2_with fail
        have IH2 := IH.out bi bw (i + 1) u xs false W2 HT4.out HT6.out (by omega) (by omega) (by have := Hyl.out; simp; omega)
        rw [HA.out] at IH2
        refine IH2.mono ?_
        rintro e W4 ⟨p', cs', u4, i4, rfl, hP, hS, h1, h2, h3, hF, hNx⟩
        have HP := hid hP; have HS := hid hS; have HF := hid hF; have HNx := hid hNx
        obtain ⟨T, pb, rfl⟩ := hP.iface
        clear hP hS hF hNx IH2
        have N4 : NodesAt B a len ks W4 := HT6.out.fr HF.out (by omega) s1 s2 Hown.out
        have HN4 := hid N4
        clear N4
        go_wp2_with fail
        have IH3 := IH.out bi bw i4 u4 (xs ++ wanted false cs') false W4 HS.out HN4.out (by omega) (by omega) (by have := Hyl.out; simp [wanted] at *; omega)
        rw [HA.out] at IH3
        refine IH3.mono ?_
        rintro e W5 ⟨p5, cs5, u5, i5, rfl, hP, hS, g1, g2, g3, hF, hNx⟩
        have HP5 := hid hP; have HS5 := hid hS; have HF5 := hid hF; have HNx5 := hid hNx
        obtain ⟨T5, pb5, rfl⟩ := hP.iface
        clear hP hS hF hNx IH3
        go_wp2
        go_ret
        have hcd4 := ((Hcd.out.move (ok_step HF.out HNx.out)).move (ok_step HF5.out HNx5.out)).move (ok_alloc (.cells #[.int .i64 0, .slice ao sn sc, .iface T (.pointer (some ⟨pb, 0, none⟩)), .iface T5 (.pointer (some ⟨pb5, 0, none⟩))] 37))
        have hP4 := PlanAt.move (ok_alloc (.cells #[.int .i64 0, .slice ao sn sc, .iface T (.pointer (some ⟨pb, 0, none⟩)), .iface T5 (.pointer (some ⟨pb5, 0, none⟩))] 37)) f _ cs' (PlanAt.move (ok_step HF5.out HNx5.out) f _ cs' HP.out)
        have hP5 := PlanAt.move (ok_alloc (.cells #[.int .i64 0, .slice ao sn sc, .iface T (.pointer (some ⟨pb, 0, none⟩)), .iface T5 (.pointer (some ⟨pb5, 0, none⟩))] 37)) f _ cs5 HP5.out
        refine ⟨_, ys ++ (cs' ++ cs5), u5, i5, rfl, .inr (.inr (.inr ⟨W5.heap.size, _, ys, _, cs', _, cs5, ok_new HS5.out _, rfl, heap_alloc_new W5 _, hcd4, hP4, hP5, rfl⟩)), ?_, by omega, g2, ?_, ?_, ?_⟩
        · have := HS5.out.frame ((Below.refl _ _).alloc (Nat.le_refl _) (.cells #[.int .i64 0, .slice ao sn sc, .iface T (.pointer (some ⟨pb, 0, none⟩)), .iface T5 (.pointer (some ⟨pb5, 0, none⟩))] 37)); simpa [wanted, List.append_assoc] using this
        · have := Hyl.out; simp; omega
        · exact ((HT5.out.trans (Next.refl _ _) HF.out).trans ((Next.refl _ _).trans HNx.out (by omega)) HF5.out).alloc _
        · exact (((Next.refl w u.ownBlock).trans HNx.out (by omega)).trans HNx5.out (by have := HF.out.size; omega))
      | true =>
        go_wp2_with (at_builtin; refine wpList_append_any _ rfl _ _ 23 rfl B 32 i0 .nilIface 16 Ybad.underlying23 hinf hz0 hz1 hz2 rfl _ _ _ rfl HT4.out.2.2.2.2.2 _ rfl ys Hcd.out.src ?a1 ?a2 ?a3 ?_)
        case a1 => have := Hyl.out; unfold maxLen; omega
        case a2 => have := Hyl.out; omega
        case a3 => omega
        intro u3 w3 hown3 hg3 hn3
        obtain ⟨S3, F3, e3⟩ := HT4.out.append hown3 hg3 hn3
        have c3 : w3.cell? ⟨bw, 0, none⟩ = some u := by rw [cell_of e3]; rfl
        have f3 := frozen_of e3 0
        have hu3 : ∃ ao3 n3 c3, u3 = .slice ao3 n3 c3 := by
          rcases hown3.2 with ⟨hv, _⟩ | ⟨g, cap, cur, hv, _⟩
          · exact ⟨_, _, _, hv⟩
          · exact ⟨_, _, _, hv⟩
        have HS3 := hid S3; have HF3 := hid F3; have HN3 := hid hn3
        have l5 : W2.heap.size ≤ w3.heap.size := hg3.size
        clear S3 F3 hn3 hown3 hg3 e3
        obtain ⟨ao3, n3, cc3, rfl⟩ := hu3
        have N3 : NodesAt B a len ks (w3.setCell ⟨bw, 0, none⟩ (.slice ao3 n3 cc3)) := HT6.out.fr HF3.out (by omega) s1 s2 Hown.out
        have HN3' := hid N3
        clear N3
        go_wp2_with fail
        have IH2 := IH.out bi bw (i + 1) (.slice ao3 n3 cc3) (xs ++ ys) true _ HS3.out HN3'.out (by omega) (by omega) (by have := Hyl.out; simp; omega)
        rw [HA.out] at IH2
        refine IH2.mono ?_
        rintro e W4 ⟨p', cs', u4, i4, rfl, hP, hS, h1, h2, h3, hF, hNx⟩
        have HP := hid hP; have HS := hid hS; have HF := hid hF; have HNx := hid hNx
        obtain ⟨T, pb, rfl⟩ := hP.iface
        clear hP hS hF hNx IH2
        have lB3 : ∀ k, (Value.slice ao3 n3 cc3).ownBlock = some k → B ≤ k := fun k hk => (HS3.out.2.2.2.2.2.lt k hk).1
        have N4 : NodesAt B a len ks W4 := HN3'.out.fr HF.out (by have := HF3.out.size; omega) s1 s2 lB3
        have HN4 := hid N4
        clear N4 lB3
        go_wp2_with fail
        have IH3 := IH.out bi bw i4 u4 (xs ++ ys ++ wanted true cs') true W4 HS.out HN4.out (by omega) (by omega) (by have := Hyl.out; simp [wanted] at *; omega)
        rw [HA.out] at IH3
        refine IH3.mono ?_
        rintro e W5 ⟨p5, cs5, u5, i5, rfl, hP, hS, g1, g2, g3, hF, hNx⟩
        have HP5 := hid hP; have HS5 := hid hS; have HF5 := hid hF; have HNx5 := hid hNx
        obtain ⟨T5, pb5, rfl⟩ := hP.iface
        clear hP hS hF hNx IH3
        go_wp2
        go_ret
        have hcd4 := (((Hcd.out.move (ok_step HF3.out HN3.out)).move (ok_step HF.out HNx.out)).move (ok_step HF5.out HNx5.out)).move (ok_alloc (.cells #[.int .i64 0, .slice ao sn sc, .iface T (.pointer (some ⟨pb, 0, none⟩)), .iface T5 (.pointer (some ⟨pb5, 0, none⟩))] 37))
        have hP4 := PlanAt.move (ok_alloc (.cells #[.int .i64 0, .slice ao sn sc, .iface T (.pointer (some ⟨pb, 0, none⟩)), .iface T5 (.pointer (some ⟨pb5, 0, none⟩))] 37)) f _ cs' (PlanAt.move (ok_step HF5.out HNx5.out) f _ cs' HP.out)
        have hP5 := PlanAt.move (ok_alloc (.cells #[.int .i64 0, .slice ao sn sc, .iface T (.pointer (some ⟨pb, 0, none⟩)), .iface T5 (.pointer (some ⟨pb5, 0, none⟩))] 37)) f _ cs5 HP5.out
        refine ⟨_, ys ++ (cs' ++ cs5), u5, i5, rfl, .inr (.inr (.inr ⟨W5.heap.size, _, ys, _, cs', _, cs5, ok_new HS5.out _, rfl, heap_alloc_new W5 _, hcd4, hP4, hP5, rfl⟩)), ?_, by omega, g2, ?_, ?_, ?_⟩
        · have := HS5.out.frame ((Below.refl _ _).alloc (Nat.le_refl _) (.cells #[.int .i64 0, .slice ao sn sc, .iface T (.pointer (some ⟨pb, 0, none⟩)), .iface T5 (.pointer (some ⟨pb5, 0, none⟩))] 37)); simpa [wanted, List.append_assoc] using this
        · have := Hyl.out; simp; omega
        · exact (((HT5.out.trans (Next.refl _ _) HF3.out).trans ((Next.refl _ _).trans HN3.out (by omega)) HF.out).trans (((Next.refl _ _).trans HN3.out (by omega)).trans HNx.out (by have := HF3.out.size; omega)) HF5.out).alloc _
        · exact ((((Next.refl w u.ownBlock).trans HN3.out (by omega)).trans HNx.out (by have := HF3.out.size; omega)).trans HNx5.out (by have := HF.out.size; have := HF3.out.size; omega))
    · -- a Subquery
      go_enter Ybad.func6, Ybad.ntmps6
      go_wp2_with fail
      have T1 := S1.out (.cells #[.int .u8 kd, .int .u8 nc] 57)
      have T2 := R1.out (.cells #[.int .u8 kd, .int .u8 nc] 57)
      have T3 := N1.out (.cells #[.int .u8 kd, .int .u8 nc] 57)
      clear c1 c2 f1 f2 n1 n2 S1 R1 N1 ecast
      generalize (w.setCell ⟨bi, 0, none⟩ (.int .i64 ((i : Int) + 1))).alloc (.cells #[.int .u8 kd, .int .u8 nc] 57) = W1 at *
      refine (conds_any q (by omega) W1).mono ?_
      rintro e W2 ⟨sl, ys, rfl, hyl, hcd0, hb2⟩
      have l3 : w.heap.size ≤ W1.heap.size := T2.size
      have T4 := T1.frame hb2
      have hcd : Conds W2 (OK B bi bw u.ownBlock W2) sl ys := conds_ok hcd0 (by omega) (by omega) (by omega) (fun k hk => by have := Hownlt.out k hk; omega)
      have T5 : Fr bi bw u.ownBlock w W2 := T2.trans (Next.refl _ _) (Fr.of_below hb2)
      have T6 : NodesAt B a len ks W2 := T3.below (hb2.mono (by omega))
      clear hcd0
      have c2 : W2.cell? ⟨bw, 0, none⟩ = some u := by rw [cell_of T4.2.2.2.2.1]; rfl
      have f2 := frozen_of T4.2.2.2.2.1 0
      have l4 : W1.heap.size ≤ W2.heap.size := hb2.size
      have HT1 := hid T1; have HT2 := hid T2; have HT3 := hid T3; have HT4 := hid T4; have HT5 := hid T5; have HT6 := hid T6; have Hcd := hid hcd; have Hb2 := hid hb2
      have Hyl : Hid (ys.length = q) := hyl
      obtain ⟨ao, sn, sc, rfl⟩ := hcd.slice
      clear T1 T2 T3 T4 T5 T6 hcd hb2 hyl
      go_wp2_with fail
      have IH2 := IH.out bi bw (i + 1) u xs false W2 HT4.out HT6.out (by omega) (by omega) (by omega)
      rw [HA.out] at IH2
      refine IH2.mono ?_
      rintro e W4 ⟨p', cs', u4, i4, rfl, hP, hS, h1, h2, h3, hF, hNx⟩
      have HS := hid hS; have HF := hid hF; have HNx := hid hNx
      obtain ⟨T, pb, rfl⟩ := hP.iface
      clear hP hS hF hNx IH2
      go_wp2
      go_ret
      refine ⟨_, [], u4, i4, rfl, .inr (.inl ⟨_, rfl, rfl⟩), ?_, by omega, h2, by simp, ?_, ?_⟩
      · have := HS.out.frame ((Below.refl _ _).alloc (Nat.le_refl _) (.cells #[.string ⟨#[115]⟩, .slice none 0 0, .iface T (.pointer (some ⟨pb, 0, none⟩))] 64)); cases inPlace <;> simpa [wanted] using this
      · exact (HT5.out.trans (Next.refl _ _) HF.out).alloc _
      · exact (Next.refl w u.ownBlock).trans HNx.out (by omega)
  · have ht : (len : Int) ≤ (i : Int) := by omega
    have htd : decide ((len : Int) ≤ (i : Int)) = true := by simpa using ht
    go_enter Ybad.func6, Ybad.ntmps6
    go_wp2_with fail
    go_ret
    refine ⟨_, [], u, i, rfl, .inl ⟨_, rfl, rfl⟩, ?_, by omega, by omega, by simp, (Fr.refl _ _ _ _).alloc _, Next.refl _ _⟩
    have := HST.out.frame ((Below.refl _ _).alloc (Nat.le_refl _) (.cells #[.pointer none, .string ⟨#[116]⟩] 55))
    cases inPlace <;> simpa [wanted] using this

theorem build_any (B : Nat) (a : Option Addr) (len cap : Nat) (ks : Nat → Int × Int) (hlen : len ≤ 512) : ∀ f, BuildSaid B a len cap ks f
  | 0 => fun _ _ _ _ _ _ _ _ _ h => by omega
  | f + 1 => build_step B a len cap ks hlen f (build_any B a len cap ks hlen f)
end Go.Proofs.YbulkchugDoor.Pre
