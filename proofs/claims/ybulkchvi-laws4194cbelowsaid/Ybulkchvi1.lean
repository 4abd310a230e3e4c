import Derived.Test.YbulkchviRows
import Derived.Handy
import Derived.WalkLawsBesides
import Derived.RegionTactic
import Derived.BigQuiet
import Derived.Deep.QuietTactic
import Derived.Lib.Builder
namespace Go.Proofs.Ybulkchvi
open Go.RowKit
set_option linter.unusedVariables false
set_option linter.unusedSimpArgs false
set_option maxRecDepth 100000

theorem hid {p : Prop} (h : p) : Hid p := h
theorem heap_lt {w : World} {b : Nat} {o : Obj} (h : w.heap[b]? = some o) : b < w.heap.size := (Array.getElem?_eq_some_iff.1 h).1
theorem cell_of {w : World} {b : Nat} {cs : Array Value} {T : TypeId} {fr : Nat × Nat} (hb : w.heap[b]? = some (.cells cs T fr)) (j : Nat) : w.cell? ⟨b, j, none⟩ = cs[j]? := by
  simp [World.cell?, hb]
theorem frozen_of {w : World} {b : Nat} {cs : Array Value} {T : TypeId} (hb : w.heap[b]? = some (.cells cs T (0, 0))) (j : Nat) : w.frozen? ⟨b, j, none⟩ = false := by
  simp [World.frozen?, hb]
theorem heap_set {w : World} {b : Nat} {cs : Array Value} {T : TypeId} {fr : Nat × Nat} (hb : w.heap[b]? = some (.cells cs T fr)) (j : Nat) (v : Value) :
    (w.setCell ⟨b, j, none⟩ v).heap[b]? = some (.cells (cs.setIfInBounds j v) T fr) := by
  simp [World.setCell, Array.getElem?_modify, hb]

/-- a row of integers (or bools) that came in: its cells, below B -/
def RowAt (B : Nat) (a : Option Addr) (n : Nat) (f : Nat → Value) (w : World) : Prop :=
  ∀ j, j < n → ∃ bb off, a = some ⟨bb, off, none⟩ ∧ bb < B ∧ w.cell? ⟨bb, off + j, none⟩ = some (f j)

theorem RowAt.below {B : Nat} {a : Option Addr} {n : Nat} {f : Nat → Value} {w w' : World} (h : RowAt B a n f w) (hb : Below B w w') : RowAt B a n f w' := by
  intro j hj
  obtain ⟨bb, off, h1, h2, h3⟩ := h j hj
  exact ⟨bb, off, h1, h2, (hb.cell (p := ⟨bb, off + j, none⟩) h2).trans h3⟩

/-- a row of the call's own, whole in block g -/
def OwnAt (g n : Nat) (T : TypeId) (f : Nat → Value) (w : World) : Prop :=
  ∃ cur, w.heap[g]? = some (.cells cur T (0, 0)) ∧ cur.size = n ∧ ∀ j, j < n → cur[j]? = some (f j)

theorem OwnAt.move {g n : Nat} {T : TypeId} {f : Nat → Value} {w w' : World} (h : OwnAt g n T f w) (hb : w'.heap[g]? = w.heap[g]?) : OwnAt g n T f w' := by
  obtain ⟨cur, h1, h2⟩ := h
  exact ⟨cur, hb.trans h1, h2⟩
theorem OwnAt.lt {g n : Nat} {T : TypeId} {f : Nat → Value} {w : World} (h : OwnAt g n T f w) : g < w.heap.size := by
  obtain ⟨cur, h1, _⟩ := h; exact heap_lt h1
theorem OwnAt.cell {g n : Nat} {T : TypeId} {f : Nat → Value} {w : World} (h : OwnAt g n T f w) (j : Nat) (hj : j < n) : w.cell? ⟨g, j, none⟩ = some (f j) := by
  obtain ⟨cur, h1, _, h2⟩ := h; rw [cell_of h1]; exact h2 j hj

/-- the flags, as the law reads them -/
def flag (rn : Nat) (rb : Nat → Bool) (j : Nat) : Bool := decide (j < rn) && rb j

theorem info33 : (Yba.prog.info? 33).map (fun i => (i.zero, i.size, i.bytes)) = some (some (.int .u64 0), 1, 8) := by kernel_rfl
theorem info4 : (Yba.prog.info? 4).map (fun i => (i.zero, i.size, i.bytes)) = some (some (.bool false), 1, 1) := by kernel_rfl

theorem own_made {w : World} {B g n : Nat} {T : TypeId} {xs : List Value} (h : w.ownsRow B T 1 (.slice (some ⟨g, 0, none⟩) n n) n xs) : ∃ cur, w.heap[g]? = some (.cells cur T (0, 0)) ∧ cur.size = n := by
  rcases h.2 with ⟨h, _⟩ | ⟨g', cap, cur, h, _, hg, _, _, hs, _⟩
  · cases h
  · injection h with e1 e2 e3
    injection e1 with e1
    injection e1 with e1
    subst e1 e3
    exact ⟨cur, hg, by omega⟩

theorem set_get {cur : Array Value} {k n : Nat} {v : Value} {f : Nat → Value} (hs : cur.size = n) (hk : k < n) (hf : ∀ j, j < k → cur[j]? = some (f j)) (hv : f k = v) : ∀ j, j < k + 1 → (cur.setIfInBounds k v)[j]? = some (f j) := by
  intro j hj
  rw [Array.getElem?_setIfInBounds]
  by_cases e : k = j
  · subst e; simp [hs, hk, hv]
  · simp only [e, if_false]; exact hf j (by omega)

set_option maxHeartbeats 2000000 in
/-- zzs4194abuild -/
theorem build_any (ex : Bool) (pa ra : Option Addr) (pn pc rn rc : Nat) (st : Int) (bit : Nat → Int) (rb : Nat → Bool) (w : World) (hn : pn ≤ 1024) (hrn : rn ≤ maxLen)
    (hP : RowAt w.heap.size pa pn (fun j => .int .u64 (bit j)) w) (hR : RowAt w.heap.size ra rn (fun j => .bool (rb j)) w) :
    Calls Yba.prog 6 #[.agg #[.bool ex, .slice pa pn pc, .slice ra rn rc, .int .i64 st]] w fun e w' => ∃ gp gr, e = .returned (.tuple #[.slice (some ⟨gp, 0, none⟩) pn pn, .slice (some ⟨gr, 0, none⟩) pn pn]) ∧
      OwnAt gp pn 33 (fun j => .int .u64 (bit j)) w' ∧ OwnAt gr pn 4 (fun j => .bool (flag rn rb j)) w' ∧ w.heap.size ≤ gp ∧ w.heap.size ≤ gr ∧ gp ≠ gr ∧ Below w.heap.size w w' := by
  obtain ⟨i0, hi, hz0, hz1, hz2⟩ := info_parts info33
  obtain ⟨i4, hi4, hy0, hy1, hy2⟩ := info_parts info4
  have HP := hid hP; have HR := hid hR
  clear hP hR
  unfold maxLen at hrn
  go_enter Yba.func6, Yba.ntmps6
  go_wp2_with (at_make; refine wpList_make_full _ rfl _ _ 29 rfl w.heap.size 33 i0 (.int .u64 0) 1 Yba.underlying29 hi hz0 hz1 _ _ _ _ pn rfl rfl rfl rfl ?b1 ?b2 ?b3 ?_)
  case b1 => rw [hz2]; omega
  case b2 => unfold maxLen; omega
  case b3 => simp
  intro w1 hown1 hg1
  obtain ⟨cur1, hcur1, hcs1⟩ := own_made hown1
  have l1 := heap_lt hcur1
  have hbox0 := heap_alloc_new w (.cells #[.bool ex, .slice pa pn pc, .slice ra rn rc, .int .i64 st] 28)
  have hbox1 : w1.heap[w.heap.size]? = some (.cells #[.bool ex, .slice pa pn pc, .slice ra rn rc, .int .i64 st] 28 (0, 0)) := (hg1.block _ (by simp) (by simp)).trans hbox0
  have bel1 : Below w.heap.size w w1 := ((Below.refl _ w).alloc (Nat.le_refl _) _).grown hg1 (by simp) (fun k hk => by cases hk)
  have x1 : w1.cell? ⟨w.heap.size, 1, none⟩ = some (.slice pa pn pc) := by rw [cell_of hbox1]; rfl
  clear hown1 hg1 hbox0
  go_wp2_with (at_make; refine wpList_make_full _ rfl _ _ 26 rfl w.heap.size 4 i4 (.bool false) 1 Yba.underlying26 hi4 hy0 hy1 _ _ _ _ pn rfl rfl rfl rfl ?b1 ?b2 ?b3 ?_)
  case b1 => rw [hy2]; omega
  case b2 => unfold maxLen; omega
  case b3 => omega
  intro w2 hown2 hg2
  obtain ⟨cur2, hcur2, hcs2⟩ := own_made hown2
  have l2 := heap_lt hcur2
  have hbox2 : w2.heap[w.heap.size]? = some (.cells #[.bool ex, .slice pa pn pc, .slice ra rn rc, .int .i64 st] 28 (0, 0)) := (hg2.block _ (by omega) (by simp)).trans hbox1
  have hcur12 : w2.heap[w.heap.size + 1]? = some (.cells cur1 33 (0, 0)) := (hg2.block _ (by omega) (by simp)).trans hcur1
  have bel2 : Below w.heap.size w w2 := bel1.grown hg2 (by omega) (fun k hk => by cases hk)
  clear hown2 hg2 hbox1 hcur1 bel1 x1
  have Hst := hid (And.intro hbox2 (And.intro hcur12 (And.intro hcur2 bel2)))
  clear hbox2 hcur12 hcur2 bel2
  go_wp2_with fail
  go_loopw [6] (fun i wr => ∃ k : Nat, k ≤ pn ∧ i = .int .i64 k ∧ Below w.heap.size w wr ∧ w1.heap.size < wr.heap.size ∧ wr.heap[w.heap.size]? = some (.cells #[.bool ex, .slice pa pn pc, .slice ra rn rc, .int .i64 st] 28 (0, 0)) ∧
      (∃ cur, wr.heap[w.heap.size + 1]? = some (.cells cur 33 (0, 0)) ∧ cur.size = pn ∧ ∀ j, j < k → cur[j]? = some (.int .u64 (bit j))) ∧
      (∃ cur, wr.heap[w1.heap.size]? = some (.cells cur 4 (0, 0)) ∧ cur.size = pn ∧ ∀ j, j < k → cur[j]? = some (.bool (flag rn rb j)))) (fun i _ => pn - (intOf i).toNat)
  case atStart => exact ⟨0, by omega, rfl, Hst.out.2.2.2, heap_lt Hst.out.2.2.1, Hst.out.1, ⟨cur1, Hst.out.2.1, hcs1, by intro j hj; omega⟩, ⟨cur2, Hst.out.2.2.1, hcs2, by intro j hj; omega⟩⟩
  case round =>
    clear Hst
    obtain ⟨k, hk, rfl, hB, hsz, hbox, ⟨cp, hcp, hcps, hcpf⟩, ⟨cr, hcr, hcrs, hcrf⟩⟩ := hrel
    have x1 : wr.cell? ⟨w.heap.size, 1, none⟩ = some (.slice pa pn pc) := by rw [cell_of hbox]; rfl
    have x2 : wr.cell? ⟨w.heap.size, 2, none⟩ = some (.slice ra rn rc) := by rw [cell_of hbox]; rfl
    have HB := hid hB; have Hbox := hid hbox; have Hcp := hid hcp; have Hcr := hid hcr; have Hcpf := hid hcpf; have Hcrf := hid hcrf
    by_cases hkn : k < pn
    · obtain ⟨bb, off, rfl, hbb, hcell⟩ := HP.out k hkn
      have hcell1 := (hB.cell (p := ⟨bb, off + k, none⟩) hbb).trans hcell
      have y1 : wr.cell? ⟨w.heap.size + 1, k, none⟩ = some cp[k] := by rw [cell_of hcp]; simp [hcps, hkn]
      have y2 := frozen_of hcp k
      have y3 : wr.cell? ⟨w1.heap.size, k, none⟩ = some cr[k] := by rw [cell_of hcr]; simp [hcrs, hkn]
      have y4 := frozen_of hcr k
      have hne : w.heap.size + 1 ≠ w1.heap.size := by omega
      have hki : (k : Int) < (pn : Int) := by omega
      generalize cp[k] = vp at y1
      generalize cr[k] = vr at y3
      clear hB hbox hcp hcr hcpf hcrf hcell
      -- the two stores, whatever flag is stored
      have fin : ∀ b : Bool, flag rn rb k = b → ∃ k' : Nat, k' ≤ pn ∧ Value.int .i64 ((k : Int) + 1) = .int .i64 k' ∧ Below w.heap.size w ((wr.setCell ⟨w.heap.size + 1, k, none⟩ (.int .u64 (bit k))).setCell ⟨w1.heap.size, k, none⟩ (.bool b)) ∧ w1.heap.size < ((wr.setCell ⟨w.heap.size + 1, k, none⟩ (.int .u64 (bit k))).setCell ⟨w1.heap.size, k, none⟩ (.bool b)).heap.size ∧
          ((wr.setCell ⟨w.heap.size + 1, k, none⟩ (.int .u64 (bit k))).setCell ⟨w1.heap.size, k, none⟩ (.bool b)).heap[w.heap.size]? = some (.cells #[.bool ex, .slice (some ⟨bb, off, none⟩) pn pc, .slice ra rn rc, .int .i64 st] 28 (0, 0)) ∧
          (∃ cur, ((wr.setCell ⟨w.heap.size + 1, k, none⟩ (.int .u64 (bit k))).setCell ⟨w1.heap.size, k, none⟩ (.bool b)).heap[w.heap.size + 1]? = some (.cells cur 33 (0, 0)) ∧ cur.size = pn ∧ ∀ j, j < k' → cur[j]? = some (.int .u64 (bit j))) ∧
          (∃ cur, ((wr.setCell ⟨w.heap.size + 1, k, none⟩ (.int .u64 (bit k))).setCell ⟨w1.heap.size, k, none⟩ (.bool b)).heap[w1.heap.size]? = some (.cells cur 4 (0, 0)) ∧ cur.size = pn ∧ ∀ j, j < k' → cur[j]? = some (.bool (flag rn rb j))) := by
        intro b hb
        refine ⟨k + 1, by omega, by go_num, (HB.out.setCell (by simp) _).setCell (by simp; omega) _, by simpa [World.setCell] using hsz, ?_, ⟨cp.setIfInBounds k (.int .u64 (bit k)), ?_, by simpa using hcps, set_get hcps hkn Hcpf.out rfl⟩, ⟨cr.setIfInBounds k (.bool b), ?_, by simpa using hcrs, set_get hcrs hkn Hcrf.out (by rw [hb])⟩⟩
        · rw [Below.heap_setCell _ _ _ _ (by simp; omega), Below.heap_setCell _ _ _ _ (by simp)]; exact Hbox.out
        · rw [Below.heap_setCell _ _ _ _ (by simpa using hne)]; exact heap_set Hcp.out k _
        · refine heap_set ?_ k _
          rw [Below.heap_setCell _ _ _ _ (by simp; omega)]; exact Hcr.out
      have Fin := hid fin
      clear fin
      by_cases hkr : k < rn
      · obtain ⟨b2, o2, rfl, hb2, hc2⟩ := HR.out k hkr
        have hc3 := (HB.out.cell (p := ⟨b2, o2 + k, none⟩) hb2).trans hc2
        have hkri : (k : Int) < (rn : Int) := by omega
        have hkrd : decide ((k : Int) < (rn : Int)) = true := by simpa using hkr
        have hfl : flag rn rb k = rb k := by simp [flag, hkr]
        have Hfl := hid hfl
        clear hc2 hfl
        go_wp2
        go_roundw
        case rel => exact Fin.out (rb k) Hfl.out
        case measure => simp [intOf]; omega
      · have hkrd : decide ((k : Int) < (rn : Int)) = false := by simpa using hkr
        have hfl : flag rn rb k = false := by simp [flag, hkr]
        have Hfl := hid hfl
        clear hfl
        go_wp2
        go_roundw
        case rel => exact Fin.out false Hfl.out
        case measure => simp [intOf]; omega
    · have hkn' : (pn : Int) ≤ (k : Int) := by omega
      clear hB hbox hcp hcr hcpf hcrf
      go_wp2
      go_ret2
      refine ⟨w.heap.size + 1, w1.heap.size, rfl, ⟨cp, Hcp.out, hcps, fun j hj => Hcpf.out j (by omega)⟩, ⟨cr, Hcr.out, hcrs, fun j hj => Hcrf.out j (by omega)⟩, by omega, by omega, by omega, HB.out⟩

set_option maxHeartbeats 2000000 in
/-- zzs4194asame -/
theorem same_any (ex : Bool) (pa ra : Option Addr) (pn pc rn rc gp gr : Nat) (st : Int) (bit : Nat → Int) (rb : Nat → Bool) (w : World) (hn : pn ≤ 1024) (hrn : rn ≤ maxLen)
    (hP : RowAt w.heap.size pa pn (fun j => .int .u64 (bit j)) w) (hR : RowAt w.heap.size ra rn (fun j => .bool (rb j)) w)
    (hp : OwnAt gp pn 33 (fun j => .int .u64 (bit j)) w) (hr : OwnAt gr pn 4 (fun j => .bool (flag rn rb j)) w) :
    Calls Yba.prog 10 #[.slice (some ⟨gp, 0, none⟩) pn pn, .slice (some ⟨gr, 0, none⟩) pn pn, .agg #[.bool ex, .slice pa pn pc, .slice ra rn rc, .int .i64 st]] w fun e w' => e = .returned (.bool true) ∧ ∃ nq, w' = (w.alloc (.cells #[.bool ex, .slice pa pn pc, .slice ra rn rc, .int .i64 st] 28)).drewN nq := by
  have HP := hid hP; have HR := hid hR; have Hp := hid hp; have Hr := hid hr
  have l1 := hp.lt
  have l2 := hr.lt
  clear hP hR hp hr
  unfold maxLen at hrn
  have hbox := heap_alloc_new w (.cells #[.bool ex, .slice pa pn pc, .slice ra rn rc, .int .i64 st] 28)
  have x1 : (w.alloc (.cells #[.bool ex, .slice pa pn pc, .slice ra rn rc, .int .i64 st] 28)).cell? ⟨w.heap.size, 1, none⟩ = some (.slice pa pn pc) := by rw [cell_of hbox]; rfl
  have x2 : (w.alloc (.cells #[.bool ex, .slice pa pn pc, .slice ra rn rc, .int .i64 st] 28)).cell? ⟨w.heap.size, 2, none⟩ = some (.slice ra rn rc) := by rw [cell_of hbox]; rfl
  have bel : Below w.heap.size w (w.alloc (.cells #[.bool ex, .slice pa pn pc, .slice ra rn rc, .int .i64 st] 28)) := (Below.refl _ _).alloc (Nat.le_refl _) _
  have hne0 : ((pn : Int) != (pn : Int)) = false := by simp
  have Hx1 := hid x1; have Hx2 := hid x2; have Hbel := hid bel
  clear x1 x2 hbox bel
  go_enter Yba.func10, Yba.ntmps10
  go_wp2
  go_loopw [7] (fun i wr => ∃ k : Nat, k ≤ pn ∧ i = .int .i64 k ∧ ∃ nq, wr = (w.alloc (.cells #[.bool ex, .slice pa pn pc, .slice ra rn rc, .int .i64 st] 28)).drewN nq) (fun i _ => pn - (intOf i).toNat)
  case atStart => exact ⟨0, by omega, rfl, 0, rfl⟩
  case round =>
    obtain ⟨k, hk, rfl, nq, rfl⟩ := hrel
    have x1 := Hx1.out
    have x2 := Hx2.out
    generalize hW : w.alloc (.cells #[.bool ex, .slice pa pn pc, .slice ra rn rc, .int .i64 st] 28) = W at *
    have HW := hid hW
    clear hW
    by_cases hkn : k < pn
    · obtain ⟨bb, off, rfl, hbb, hcell⟩ := HP.out k hkn
      have c1 := (Hbel.out.cell (p := ⟨bb, off + k, none⟩) hbb).trans hcell
      have c2 := (Hbel.out.cell (p := ⟨gp, k, none⟩) l1).trans (Hp.out.cell k hkn)
      have c3 := (Hbel.out.cell (p := ⟨gr, k, none⟩) l2).trans (Hr.out.cell k hkn)
      have hki : (k : Int) < (pn : Int) := by omega
      clear hcell
      go_wp2
      go_quiet (fail)
      go_wp2
      by_cases hkr : k < rn
      · obtain ⟨b2, o2, rfl, hb2, hc2⟩ := HR.out k hkr
        have hc3 := (Hbel.out.cell (p := ⟨b2, o2 + k, none⟩) hb2).trans hc2
        have hkri : (k : Int) < (rn : Int) := by omega
        have hkrd : decide ((k : Int) < (rn : Int)) = true := by simpa using hkr
        have hfl : flag rn rb k = rb k := by simp [flag, hkr]
        rw [hfl] at c3
        have hbb2 : (rb k != rb k) = false := by simp
        clear hc2 hfl
        go_quiet (fail)
        go_wp2
        go_roundw
        case rel => exact ⟨k + 1, by omega, by go_num, _, rfl⟩
        case measure => simp [intOf]; omega
      · have hkrd : decide ((k : Int) < (rn : Int)) = false := by simpa using hkr
        have hfl : flag rn rb k = false := by simp [flag, hkr]
        rw [hfl] at c3
        clear hfl
        go_quiet (fail)
        go_wp2
        go_roundw
        case rel => exact ⟨k + 1, by omega, by go_num, _, rfl⟩
        case measure => simp [intOf]; omega
    · have hkn' : (pn : Int) ≤ (k : Int) := by omega
      go_wp2
      go_ret
      exact ⟨rfl, nq, by rw [HW.out]⟩

/-! ### the log of faults -/
/-- a fault's seven cells -/
def fault (m i : Int) (ung first : Int) : List Value := [.int .u8 m, .pointer none, .pointer none, .pointer none, .int .i64 i, .int .u64 ung, .int .i64 first]

theorem info44 : (Yba.prog.info? 44).map (fun i => (i.zero, i.size, i.bytes)) = some (some (.agg #[.int .u8 0, .pointer none, .pointer none, .pointer none, .int .i64 0, .int .u64 0, .int .i64 0]), 7, 56) := by kernel_rfl

def Fr (b1 b2 : Nat) (r : Option Nat) (w w' : World) : Prop :=
  w'.os = w.os ∧ w'.tape = w.tape ∧ w'.output = w.output ∧ w.heap.size ≤ w'.heap.size ∧ ∀ k, k < w.heap.size → k ≠ b1 → k ≠ b2 → some k ≠ r → w'.heap[k]? = w.heap[k]?
def Next (w : World) (r r' : Option Nat) : Prop := r' = r ∨ ∃ k, r' = some k ∧ w.heap.size ≤ k
theorem Fr.refl (b1 b2 : Nat) (r : Option Nat) (w : World) : Fr b1 b2 r w w := ⟨rfl, rfl, rfl, Nat.le_refl _, fun _ _ _ _ _ => rfl⟩
theorem Next.refl (w : World) (r : Option Nat) : Next w r r := .inl rfl
theorem Fr.size {b1 b2 : Nat} {r : Option Nat} {w w' : World} (h : Fr b1 b2 r w w') : w.heap.size ≤ w'.heap.size := h.2.2.2.1
theorem Fr.trans {b1 b2 : Nat} {r r1 : Option Nat} {w w1 w2 : World} (h : Fr b1 b2 r w w1) (n : Next w r r1) (k : Fr b1 b2 r1 w1 w2) : Fr b1 b2 r w w2 := by
  obtain ⟨a1, a2, a3, a4, a5⟩ := h
  obtain ⟨c1, c2, c3, c4, c5⟩ := k
  refine ⟨c1.trans a1, c2.trans a2, c3.trans a3, Nat.le_trans a4 c4, fun i hi h1 h2 h3 => ?_⟩
  rw [c5 i (by omega) h1 h2 ?_, a5 i hi h1 h2 h3]
  rcases n with rfl | ⟨j, rfl, hj⟩
  · exact h3
  · intro e; injection e with e; omega
theorem Next.trans {w w1 : World} {r r1 r2 : Option Nat} (h : Next w r r1) (k : Next w1 r1 r2) (hs : w.heap.size ≤ w1.heap.size) : Next w r r2 := by
  rcases k with rfl | ⟨j, rfl, hj⟩
  · exact h
  · exact .inr ⟨j, rfl, by omega⟩
theorem Fr.of_below {b1 b2 : Nat} {r : Option Nat} {w w' : World} (h : Below w.heap.size w w') : Fr b1 b2 r w w' :=
  ⟨h.os, h.tape, h.output, h.size, fun k hk _ _ _ => h.block k hk⟩
theorem Fr.alloc {b1 b2 : Nat} {r : Option Nat} {w w' : World} (h : Fr b1 b2 r w w') (o : Obj) : Fr b1 b2 r w (w'.alloc o) := by
  obtain ⟨a1, a2, a3, a4, a5⟩ := h
  refine ⟨a1, a2, a3, by simp; omega, fun i hi h1 h2 h3 => ?_⟩
  rw [Below.heap_alloc _ _ _ (by omega)]; exact a5 i hi h1 h2 h3
theorem Fr.grown {b1 b2 : Nat} {r r1 : Option Nat} {w w' w2 : World} (h : Fr b1 b2 r w w') (n : Next w r r1) (hg : w'.grownBy w2 r1) : Fr b1 b2 r w w2 :=
  h.trans n ⟨hg.os, hg.tape, hg.output, hg.size, fun k hk _ _ h3 => hg.block k hk h3⟩
theorem Fr.setCell {b1 b2 : Nat} {r : Option Nat} {w w' : World} (h : Fr b1 b2 r w w') (k j : Nat) (v : Value) (hk : k = b1 ∨ k = b2 ∨ w.heap.size ≤ k) : Fr b1 b2 r w (w'.setCell ⟨k, j, none⟩ v) := by
  obtain ⟨a1, a2, a3, a4, a5⟩ := h
  refine ⟨a1, a2, a3, by simp [World.setCell]; omega, fun i hi h1 h2 h3 => ?_⟩
  rw [Below.heap_setCell _ _ _ _ (by rcases hk with rfl | rfl | hk <;> simp <;> omega)]; exact a5 i hi h1 h2 h3
theorem Fr.drew {b1 b2 : Nat} {r : Option Nat} {w w' : World} (h : Fr b1 b2 r w w') : Fr b1 b2 r w w'.drew := h
theorem Fr.below {b1 b2 B : Nat} {r : Option Nat} {w w' : World} (h : Fr b1 b2 r w w') (hB : B ≤ w.heap.size) (h1 : B ≤ b1) (h2 : B ≤ b2) (h3 : ∀ k, r = some k → B ≤ k) : Below B w w' := by
  obtain ⟨a1, a2, a3, a4, a5⟩ := h
  exact ⟨a1, a2, a3, a4, fun k hk => a5 k (by omega) (by omega) (by omega) (fun e => by have := h3 k e.symm; omega)⟩

section
variable {P : Program} (w : World)
/-- where the row lies behind an append of at least one element -/
theorem append_block (base : Nat) (t ty e : TypeId) (i : TypeInfo) (z : Value) (size bytes : Nat) (ht : P.underlying t = some (.slice e)) (hi : P.info? e = some i) (hz : i.zero = some z)
    (hsize : i.size = size) (hby : i.bytes = bytes)
    (v : Value) (n : Nat) (xs : List Value) (hown : w.ownsRow base e size v n xs)
    (a : Addr) (m c : Nat) (news : List Value) (hl : news.length = m * size) (hnews : ∀ j u, news[j]? = some u → w.cell? (a.add j) = some u) (h1 : ∀ u ∈ news, u.oneCell' = true)
    (h63 : n + m ≤ maxLen) (hbytes : (n + m) * bytes ≤ 140737488355328) (hm : 0 < m) {v' : Value} {w' : World}
    (hr : (Builtin.append_ #[t, t] ty #[v, .slice (some a) m c]).run P w = .ok v' w') : Next w v.ownBlock v'.ownBlock := by
  subst hsize
  subst hby
  have hsmall : n + m ≤ 9223372036854775807 := by simp only [maxLen] at h63; omega
  rcases hown.2 with ⟨rfl, rfl⟩ | ⟨g, cap, cur, rfl, hbg, hg, hnc, hcm, hcs, htake⟩
  · have hr2 := run_append_nil (P := P) w t ty e i z ht hi hz a m c news hl hnews hm (by omega) (by have hb := hbytes; simp only [Nat.zero_add] at hb; omega)
    rw [hr2] at hr
    injection hr with hv _
    subst hv
    exact .inr ⟨_, rfl, Nat.le_refl _⟩
  · by_cases hroom : n + m ≤ cap
    · have hfit : n * i.size + news.length ≤ cur.size := by rw [hl, hcs, ← Nat.add_mul]; exact Nat.mul_le_mul_right _ hroom
      have hr2 := run_append_room (P := P) w t ty e i ht hi g n cap cur hg a m c news hl hnews h1 hroom hfit
      rw [hr2] at hr
      injection hr with hv _
      subst hv
      exact .inl rfl
    · have holds : ∀ j u, xs[j]? = some u → w.cell? ((⟨g, 0, none⟩ : Addr).add j) = some u := hown.cells (g := g) rfl
      have hr2 := run_append_grow (P := P) w t ty e i z ht hi hz ⟨g, 0, none⟩ n cap xs hown.1 holds a m c news hl hnews (by omega) (by omega) (growslice_fits (by omega) hbytes)
      rw [hr2] at hr
      injection hr with hv _
      subst hv
      exact .inr ⟨_, rfl, Nat.le_refl _⟩

theorem wpList_append_own2 {ops : Array Oper} {rest : List Oper} {o : Oper} {a : Act} {Q : Exit → Act → World → Prop} (hgd : o.guard = none) (s x : Operand) (t : TypeId)
    (ho : o.op = .call { callee := .builtin .append, args := #[s, x], argTypes := #[t, t] })
    (base : Nat) (e : TypeId) (i : TypeInfo) (z : Value) (size bytes : Nat) (ht : P.underlying t = some (.slice e)) (hi : P.info? e = some i) (hz : i.zero = some z)
    (hsize : i.size = size) (hby : i.bytes = bytes) (hzs : z.cells.size = size) (hsz : 0 < size)
    (v : Value) (n : Nat) (xs : List Value) (hs : a.eval s = v) (hown : w.ownsRow base e size v n xs)
    (ad : Addr) (m c : Nat) (news : List Value) (hx : a.eval x = .slice (some ad) m c) (hl : news.length = m * size) (hnews : ∀ j u, news[j]? = some u → w.cell? (ad.add j) = some u) (h1 : ∀ u ∈ news, u.oneCell' = true)
    (h63 : n + m ≤ maxLen) (hbytes : (n + m) * bytes ≤ 140737488355328) (hbase : base ≤ w.heap.size) (hm : 0 < m)
    (h : ∀ v' w', w'.ownsRow base e size v' (n + m) (xs ++ news) → w.grownBy w' v.ownBlock → Next w v.ownBlock v'.ownBlock → wpList P ops Q rest (a.put o.dst v') w') : wpList P ops Q (o :: rest) a w := by
  refine wpList_plain hgd fun K hK => ?_
  obtain ⟨v', w', hr, h2, h3, h4⟩ := run_append_own (P := P) w base t o.type e i z size bytes ht hi hz hsize hby hzs hsz v n xs hown ad m c news hl hnews h1 h63 hbytes hbase
  have h5 := append_block (P := P) w base t o.type e i z size bytes ht hi hz hsize hby v n xs hown ad m c news hl hnews h1 h63 hbytes hm hr
  unfold Oper.wp execOp
  simp only [ho, resolve, invoke, builtin, Sem.run_bind, Sem.run_pure, Result.andThen_ok, List.map_toArray, List.map_cons, List.map_nil, hs, hx, hr]
  exact hK _ _ (h v' w' h2 h3 h5)
end

/-- the cells of a new block of seven -/
theorem fault_cells (w : World) (m i u f : Int) (T : TypeId) : ∀ j v, (fault m i u f)[j]? = some v → (w.alloc (.cells (fault m i u f).toArray T)).cell? ((⟨w.heap.size, 0, none⟩ : Addr).add j) = some v := by
  intro j v hj
  have hadd : (⟨w.heap.size, 0, none⟩ : Addr).add j = ⟨w.heap.size, j, none⟩ := by unfold Addr.add; split <;> simp_all
  rw [hadd, cell_of (heap_alloc_new w (.cells (fault m i u f).toArray T))]
  simpa using hj
theorem fault_one (m i u f : Int) : ∀ v ∈ fault m i u f, v.oneCell' = true := by
  intro v hv
  simp [fault] at hv
  rcases hv with rfl | rfl | rfl | rfl | rfl <;> rfl

/-- the log: a variable in block bl, its row of n faults -/
def LogAt (B bl : Nat) (u : Value) (n : Nat) (xs : List Value) (w : World) : Prop :=
  B ≤ bl ∧ w.heap[bl]? = some (.cells #[u] 39 (0, 0)) ∧ w.ownsRow B 44 7 u n xs

theorem own_ne {B b n : Nat} {u u0 : Value} {xs : List Value} {w : World} {T : TypeId} {cs : Array Value} (h : w.ownsRow B 44 7 u n xs) (hb : w.heap[b]? = some (.cells cs T (0, 0))) (hT : T ≠ 44) : u.ownBlock ≠ some b := by
  rcases h.2 with ⟨rfl, _⟩ | ⟨g, cap, cur, rfl, _, hg, _⟩
  · simp [Value.ownBlock]
  · intro e
    simp only [Value.ownBlock, Option.some.injEq] at e
    subst e
    rw [hb] at hg
    simp at hg
    exact hT hg.2

set_option maxHeartbeats 1000000 in
/-- the closure that logs, of either law -/
theorem log_any (c : Nat) (hc : c = 8 ∨ c = 11) (B bl : Nat) (u : Value) (n : Nat) (xs : List Value) (m i ug f : Int) (w : World) (h : LogAt B bl u n xs w) (hn : n ≤ 100000) :
    Calls Yba.prog c #[.agg #[.int .u8 m, .pointer none, .pointer none, .pointer none, .int .i64 i, .int .u64 ug, .int .i64 f], .pointer (some ⟨bl, 0, none⟩)] w fun e w' => ∃ u', e = .returned (.tuple #[]) ∧ LogAt B bl u' (n + 1) (xs ++ fault m i ug f) w' ∧ Fr bl bl u.ownBlock w w' ∧ Next w u.ownBlock u'.ownBlock := by
  obtain ⟨i0, hi, hz0, hz1, hz2⟩ := info_parts info44
  obtain ⟨s1, s2, s3⟩ := h
  have l1 := heap_lt s2
  have hne := own_ne (u0 := u) s3 s2 (by decide)
  have HS2 := hid s2; have HS3 := hid s3
  have c0 : w.cell? ⟨bl, 0, none⟩ = some u := by rw [cell_of s2]; rfl
  clear s2 s3
  rcases hc with rfl | rfl
  · go_enter Yba.func8, Yba.ntmps8
    go_wp2_with (at_builtin; refine wpList_append_own2 _ rfl _ _ 39 rfl B 44 i0 _ 7 56 Yba.underlying39 hi hz0 hz1 hz2 rfl (by decide) _ _ _ rfl ((HS3.out.alloc _).alloc _) ⟨w.heap.size + 1, 0, none⟩ 1 1 (fault m i ug f) rfl rfl ?c1 (fault_one m i ug f) ?c3 ?c4 ?c5 (by decide) ?_)
    case c1 =>
      have := fault_cells (w.alloc (.cells (fault m i ug f).toArray 44)) m i ug f 44
      simpa [fault] using this
    case c3 => unfold maxLen; omega
    case c4 => omega
    case c5 => simp; omega
    intro u' w2 ho hg hn2
    have e2 : w2.heap[bl]? = some (.cells #[u] 39 (0, 0)) := by
      rw [hg.block bl (by simp; omega) (fun e => hne e.symm), Below.heap_alloc _ _ _ (by simp; omega), Below.heap_alloc _ _ _ l1]; exact HS2.out
    have d0 : w2.cell? ⟨bl, 0, none⟩ = some u := by rw [cell_of e2]; rfl
    have f0 := frozen_of e2 0
    have hu : ∃ ao n c, u' = .slice ao n c := by
      rcases ho.2 with ⟨hv, _⟩ | ⟨g, cap, cur, hv, _⟩
      · exact ⟨_, _, _, hv⟩
      · exact ⟨_, _, _, hv⟩
    have Ho := hid ho; have Hg := hid hg; have Hn2 := hid hn2; have He2 := hid e2
    obtain ⟨ao, n', cp, rfl⟩ := hu
    clear ho hg hn2 e2
    go_wp2
    go_returns
    have hgr : w2.grownBy (w2.setCell ⟨bl, 0, none⟩ (.slice ao n' cp)) (some bl) := ⟨rfl, rfl, rfl, by simp [World.setCell], fun k _ hk => Below.heap_setCell _ _ _ _ (fun e => hk (by simp [e]))⟩
    refine ⟨_, rfl, ⟨s1, heap_set He2.out 0 _, Ho.out.kept hgr (.inr (own_ne (u0 := u) Ho.out He2.out (by decide)))⟩, ?_, ?_⟩
    · exact ((((Fr.refl bl bl u.ownBlock w).alloc _).alloc _).grown (Next.refl _ _) Hg.out).setCell bl 0 _ (.inl rfl)
    · exact (Next.refl w u.ownBlock).trans Hn2.out (by simp; omega)
  · go_enter Yba.func11, Yba.ntmps11
    go_wp2_with (at_builtin; refine wpList_append_own2 _ rfl _ _ 39 rfl B 44 i0 _ 7 56 Yba.underlying39 hi hz0 hz1 hz2 rfl (by decide) _ _ _ rfl ((HS3.out.alloc _).alloc _) ⟨w.heap.size + 1, 0, none⟩ 1 1 (fault m i ug f) rfl rfl ?c1 (fault_one m i ug f) ?c3 ?c4 ?c5 (by decide) ?_)
    case c1 =>
      have := fault_cells (w.alloc (.cells (fault m i ug f).toArray 44)) m i ug f 44
      simpa [fault] using this
    case c3 => unfold maxLen; omega
    case c4 => omega
    case c5 => simp; omega
    intro u' w2 ho hg hn2
    have e2 : w2.heap[bl]? = some (.cells #[u] 39 (0, 0)) := by
      rw [hg.block bl (by simp; omega) (fun e => hne e.symm), Below.heap_alloc _ _ _ (by simp; omega), Below.heap_alloc _ _ _ l1]; exact HS2.out
    have d0 : w2.cell? ⟨bl, 0, none⟩ = some u := by rw [cell_of e2]; rfl
    have f0 := frozen_of e2 0
    have hu : ∃ ao n c, u' = .slice ao n c := by
      rcases ho.2 with ⟨hv, _⟩ | ⟨g, cap, cur, hv, _⟩
      · exact ⟨_, _, _, hv⟩
      · exact ⟨_, _, _, hv⟩
    have Ho := hid ho; have Hg := hid hg; have Hn2 := hid hn2; have He2 := hid e2
    obtain ⟨ao, n', cp, rfl⟩ := hu
    clear ho hg hn2 e2
    go_wp2
    go_returns
    have hgr : w2.grownBy (w2.setCell ⟨bl, 0, none⟩ (.slice ao n' cp)) (some bl) := ⟨rfl, rfl, rfl, by simp [World.setCell], fun k _ hk => Below.heap_setCell _ _ _ _ (fun e => hk (by simp [e]))⟩
    refine ⟨_, rfl, ⟨s1, heap_set He2.out 0 _, Ho.out.kept hgr (.inr (own_ne (u0 := u) Ho.out He2.out (by decide)))⟩, ?_, ?_⟩
    · exact ((((Fr.refl bl bl u.ownBlock w).alloc _).alloc _).grown (Next.refl _ _) Hg.out).setCell bl 0 _ (.inl rfl)
    · exact (Next.refl w u.ownBlock).trans Hn2.out (by simp; omega)
end Go.Proofs.Ybulkchvi
