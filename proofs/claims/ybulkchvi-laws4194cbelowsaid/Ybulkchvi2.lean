import Derived.Test.Ybulkchvi1
namespace Go.Proofs.Ybulkchvi
open Go.RowKit
set_option linter.unusedVariables false
set_option linter.unusedSimpArgs false
set_option maxRecDepth 100000

/-- one permission: the sets and the log behind it (the log's count, its cells) -/
def stepF (ex : Bool) (al : Int) (i : Nat) (x : Int) (r : Bool) (s : Int × Int × Nat × List Value) : Int × Int × Nat × List Value :=
  if (x == 0) = true then s
  else if (!r && (bits .andNot .u64 x al != 0)) = true then (s.1, s.2.1, s.2.2.1 + 1, s.2.2.2 ++ fault 1 i (bits .andNot .u64 x al) 0)
  else if (!ex && ((r && (bits .and .u64 s.1 x != 0)) || (!r && (bits .and .u64 s.2.1 x != 0)))) = true then (s.1, s.2.1, s.2.2.1 + 1, s.2.2.2 ++ fault 2 i 0 0)
  else if r = true then (s.1, bits .or .u64 s.2.1 x, s.2.2.1, s.2.2.2) else (bits .or .u64 s.1 x, s.2.1, s.2.2.1, s.2.2.2)

def runF (ex : Bool) (al : Int) (bit : Nat → Int) (fl : Nat → Bool) (s0 : Int × Int × Nat × List Value) : Nat → Int × Int × Nat × List Value
  | 0 => s0
  | k + 1 => stepF ex al k (bit k) (!ex && fl k) (runF ex al bit fl s0 k)

theorem step_count (ex : Bool) (al : Int) (i : Nat) (x : Int) (r : Bool) (s : Int × Int × Nat × List Value) : (stepF ex al i x r s).2.2.1 ≤ s.2.2.1 + 1 := by
  unfold stepF; repeat' split
  all_goals simp
theorem run_count (ex : Bool) (al : Int) (bit : Nat → Int) (fl : Nat → Bool) (a0 r0 : Int) : ∀ k, (runF ex al bit fl (a0, r0, 0, []) k).2.2.1 ≤ k
  | 0 => by simp [runF]
  | k + 1 => by
    have h1 := run_count ex al bit fl a0 r0 k
    have h2 := step_count ex al k (bit k) (!ex && fl k) (runF ex al bit fl (a0, r0, 0, []) k)
    simp only [runF]
    omega

theorem Fr.widen {ba bl : Nat} {r : Option Nat} {w w' : World} (h : Fr bl bl r w w') : Fr ba bl r w w' := by
  obtain ⟨a1, a2, a3, a4, a5⟩ := h
  exact ⟨a1, a2, a3, a4, fun k hk h1 h2 h3 => a5 k hk h2 h2 h3⟩

/-- a block that a frame keeps -/
theorem Fr.keep {b1 b2 k : Nat} {r : Option Nat} {w w' : World} {o : Obj} (h : Fr b1 b2 r w w') (hk : w.heap[k]? = some o) (h1 : k ≠ b1) (h2 : k ≠ b2) (h3 : some k ≠ r) : w'.heap[k]? = some o :=
  (h.2.2.2.2 k (heap_lt hk) h1 h2 h3).trans hk

theorem LogAt.setCell {B bl : Nat} {u : Value} {n : Nat} {xs : List Value} {w : World} (h : LogAt B bl u n xs w) (k j : Nat) (v : Value) (h1 : k ≠ bl) (h2 : u.ownBlock ≠ some k) : LogAt B bl u n xs (w.setCell ⟨k, j, none⟩ v) := by
  obtain ⟨s1, s5, s6⟩ := h
  have hgr : w.grownBy (w.setCell ⟨k, j, none⟩ v) (some k) := ⟨rfl, rfl, rfl, by simp [World.setCell], fun i _ hi => Below.heap_setCell _ _ _ _ (fun e => hi (by simp [e]))⟩
  exact ⟨s1, (Below.heap_setCell _ _ _ _ (by simp; omega)).trans s5, s6.kept hgr (.inr h2)⟩

/-- what apply leaves -/
def ApplyPost (B ba bl : Nat) (first : Value) (ex' : Bool) (u : Value) (m0 : Nat) (xs : List Value) (s : Int × Int × Nat × List Value) (w : World) (e : Ending) (w' : World) : Prop :=
  ∃ u', e = .returned (.tuple #[]) ∧ w'.heap[ba]? = some (.cells #[first, .bool ex', .int .u64 s.1, .int .u64 s.2.1] 35 (0, 0)) ∧ LogAt B bl u' (m0 + s.2.2.1) (xs ++ s.2.2.2) w' ∧ Fr ba bl u.ownBlock w w' ∧ Next w u.ownBlock u'.ownBlock

set_option maxHeartbeats 4000000 in
/-- apply at an empty adjustment, by an = statement (the closure of ExactFresh) -/
theorem apply_fresh_exact11 (B ba bl bm gp gr : Nat) (n : Nat) (hn : n ≤ 1024) (al a0 r0 : Int) (rel st : Int) (bit : Nat → Int) (fl : Nat → Bool) (u : Value) (m0 : Nat) (hm0 : m0 ≤ 1000) (xs : List Value) (w : World)
    (hAdj : w.heap[ba]? = some (.cells #[.pointer none, .bool false, .int .u64 a0, .int .u64 r0] 35 (0, 0)))
    (hAdm : w.heap[bm]? = some (.cells #[.int .u8 rel, .bool true, .slice (some ⟨gp, 0, none⟩) n n, .slice (some ⟨gr, 0, none⟩) n n, .int .i64 st] 38 (0, 0)))
    (hp : OwnAt gp n 33 (fun j => .int .u64 (bit j)) w) (hr : OwnAt gr n 4 (fun j => .bool (fl j)) w) (hl : LogAt B bl u m0 xs w) :
    Calls Yba.prog 7 #[.pointer (some ⟨ba, 0, none⟩), .pointer (some ⟨bm, 0, none⟩), .int .u64 al, .func (Fn.func 11) #[] #[.pointer (some ⟨bl, 0, none⟩)]] w (ApplyPost B ba bl (.pointer (some ⟨bm, 0, none⟩)) true u m0 xs (runF true al bit fl (a0, 18446744073709551615, 0, []) n) w) := by
  have hba : ba ≠ bl := by intro e; subst e; have := hl.2.1; rw [hAdj] at this; simp at this
  have hbm : bm ≠ ba ∧ bm ≠ bl ∧ some bm ≠ u.ownBlock := by
    refine ⟨?_, ?_, fun e => own_ne (u0 := u) hl.2.2 hAdm (by decide) e.symm⟩
    · intro e; subst e; rw [hAdj] at hAdm; simp at hAdm
    · intro e; subst e; have := hl.2.1; rw [hAdm] at this; simp at this
  obtain ⟨cp, hcp, hcps, hcpf⟩ := hp
  obtain ⟨cr, hcr, hcrs, hcrf⟩ := hr
  have hgp : gp ≠ ba ∧ gp ≠ bl ∧ some gp ≠ u.ownBlock := by
    refine ⟨?_, ?_, fun e => own_ne (u0 := u) hl.2.2 hcp (by decide) e.symm⟩
    · intro e; subst e; rw [hAdj] at hcp; simp at hcp
    · intro e; subst e; have := hl.2.1; rw [hcp] at this; simp at this
  have hgr : gr ≠ ba ∧ gr ≠ bl ∧ some gr ≠ u.ownBlock := by
    refine ⟨?_, ?_, fun e => own_ne (u0 := u) hl.2.2 hcr (by decide) e.symm⟩
    · intro e; subst e; rw [hAdj] at hcr; simp at hcr
    · intro e; subst e; have := hl.2.1; rw [hcr] at this; simp at this
  have hub : u.ownBlock ≠ some ba := own_ne (u0 := u) hl.2.2 hAdj (by decide)
  have Hl := hid hl; have HAdj := hid hAdj; have HAdm := hid hAdm; have Hcp := hid hcp; have Hcr := hid hcr; have Hcpf := hid hcpf; have Hcrf := hid hcrf
  have Hbm := hid hbm; have Hgp := hid hgp; have Hgr := hid hgr; have Hub := hid hub
  have a_0 : w.cell? ⟨ba, 0, none⟩ = some (.pointer none) := by rw [cell_of hAdj]; rfl
  have a_1 : w.cell? ⟨ba, 1, none⟩ = some (.bool false) := by rw [cell_of hAdj]; rfl
  have a_3 : w.cell? ⟨ba, 3, none⟩ = some (.int .u64 r0) := by rw [cell_of hAdj]; rfl
  have z_0 := frozen_of hAdj 0; have z_1 := frozen_of hAdj 1; have z_3 := frozen_of hAdj 3
  have m_1 : w.cell? ⟨bm, 1, none⟩ = some (.bool true) := by rw [cell_of hAdm]; rfl
  have m_2 : w.cell? ⟨bm, 2, none⟩ = some (.slice (some ⟨gp, 0, none⟩) n n) := by rw [cell_of hAdm]; rfl
  have hbm1 := hbm.1
  clear hl hAdj hAdm hcp hcr hcpf hcrf hbm hgp hgr hub
  go_enter Yba.func7, Yba.ntmps7
  go_wp2
  go_loopw [66] (fun i wr => ∃ (k : Nat) (u' : Value), k ≤ n ∧ i = .int .i64 k ∧ wr.heap[ba]? = some (.cells #[.pointer (some ⟨bm, 0, none⟩), .bool true, .int .u64 (runF true al bit fl (a0, 18446744073709551615, 0, []) k).1, .int .u64 (runF true al bit fl (a0, 18446744073709551615, 0, []) k).2.1] 35 (0, 0)) ∧
      LogAt B bl u' (m0 + (runF true al bit fl (a0, 18446744073709551615, 0, []) k).2.2.1) (xs ++ (runF true al bit fl (a0, 18446744073709551615, 0, []) k).2.2.2) wr ∧ Fr ba bl u.ownBlock w wr ∧ Next w u.ownBlock u'.ownBlock) (fun i _ => n - (intOf i).toNat)
  case atStart =>
    refine ⟨0, u, by omega, rfl, ?_, ?_, ?_, Next.refl _ _⟩
    · exact (heap_set (heap_set (heap_set HAdj.out 0 _) 1 _) 3 _)
    · show LogAt B bl u (m0 + 0) (xs ++ []) _
      rw [Nat.add_zero, List.append_nil]
      exact (((Hl.out.setCell ba 0 _ hba Hub.out).setCell ba 1 _ hba Hub.out).setCell ba 3 _ hba Hub.out)
    · exact ((((Fr.refl ba bl u.ownBlock w).setCell ba 0 _ (.inl rfl)).setCell ba 1 _ (.inl rfl)).setCell ba 3 _ (.inl rfl))
  case round =>
    clear a_0 a_1 a_3 z_0 z_1 z_3 m_1 m_2
    obtain ⟨k, u', hk, rfl, hadj, hlog, hfr, hnx⟩ := hrel
    have hcnt := run_count true al bit fl a0 18446744073709551615 k
    have Hrun := hid (show runF true al bit fl (a0, 18446744073709551615, 0, []) (k + 1) = stepF true al k (bit k) (!true && fl k) (runF true al bit fl (a0, 18446744073709551615, 0, []) k) from rfl)
    generalize hs : runF true al bit fl (a0, 18446744073709551615, 0, []) k = s at *
    have Hs := hid hs
    clear hs
    obtain ⟨sa, sr, sc, sl⟩ := s
    simp only at hadj hlog hcnt
    have hm := hfr.keep HAdm.out Hbm.out.1 Hbm.out.2.1 Hbm.out.2.2
    have hub' : u'.ownBlock ≠ some ba := own_ne (u0 := u) hlog.2.2 hadj (by decide)
    have a_2 : wr.cell? ⟨ba, 2, none⟩ = some (.int .u64 sa) := by rw [cell_of hadj]; rfl
    have a_3 : wr.cell? ⟨ba, 3, none⟩ = some (.int .u64 sr) := by rw [cell_of hadj]; rfl
    have z_2 := frozen_of hadj 2; have z_3 := frozen_of hadj 3
    have m_1 : wr.cell? ⟨bm, 1, none⟩ = some (.bool true) := by rw [cell_of hm]; rfl
    have m_3 : wr.cell? ⟨bm, 3, none⟩ = some (.slice (some ⟨gr, 0, none⟩) n n) := by rw [cell_of hm]; rfl
    by_cases hkn : k < n
    · have hki : (k : Int) < (n : Int) := by omega
      have e_p : wr.cell? ⟨gp, k, none⟩ = some (.int .u64 (bit k)) := by rw [cell_of (hfr.keep Hcp.out Hgp.out.1 Hgp.out.2.1 Hgp.out.2.2)]; exact Hcpf.out k hkn
      have e_r : wr.cell? ⟨gr, k, none⟩ = some (.bool (fl k)) := by rw [cell_of (hfr.keep Hcr.out Hgr.out.1 Hgr.out.2.1 Hgr.out.2.2)]; exact Hcrf.out k hkn
      have HL := hid hlog; have HF := hid hfr; have HN := hid hnx; have HAJ := hid hadj; have HUB := hid hub'
      clear hlog hfr hnx hadj hm hub'
      -- what a round ends in: the sets as they were, or one of them turned; the log as it was, or one fault more
      have Same := hid (show stepF true al k (bit k) (!true && fl k) (sa, sr, sc, sl) = (sa, sr, sc, sl) → _ from fun h => (show ∃ (k' : Nat) (u'' : Value), k' ≤ n ∧ Value.int .i64 ((k : Int) + 1) = .int .i64 k' ∧ wr.heap[ba]? = some (.cells #[.pointer (some ⟨bm, 0, none⟩), .bool true, .int .u64 (runF true al bit fl (a0, 18446744073709551615, 0, []) k').1, .int .u64 (runF true al bit fl (a0, 18446744073709551615, 0, []) k').2.1] 35 (0, 0)) ∧ LogAt B bl u'' (m0 + (runF true al bit fl (a0, 18446744073709551615, 0, []) k').2.2.1) (xs ++ (runF true al bit fl (a0, 18446744073709551615, 0, []) k').2.2.2) wr ∧ Fr ba bl u.ownBlock w wr ∧ Next w u.ownBlock u''.ownBlock from
        ⟨k + 1, u', by omega, by go_num, by rw [Hrun.out, h]; exact HAJ.out, by rw [Hrun.out, h]; exact HL.out, HF.out, HN.out⟩))
      have Fault := hid (show ∀ (m ug : Int) (w2 : World) (u2 : Value), stepF true al k (bit k) (!true && fl k) (sa, sr, sc, sl) = (sa, sr, sc + 1, sl ++ fault m k ug 0) → LogAt B bl u2 (m0 + sc + 1) (xs ++ sl ++ fault m k ug 0) w2 → Fr bl bl u'.ownBlock wr w2 → Next wr u'.ownBlock u2.ownBlock →
          ∃ (k' : Nat) (u'' : Value), k' ≤ n ∧ Value.int .i64 ((k : Int) + 1) = .int .i64 k' ∧ w2.heap[ba]? = some (.cells #[.pointer (some ⟨bm, 0, none⟩), .bool true, .int .u64 (runF true al bit fl (a0, 18446744073709551615, 0, []) k').1, .int .u64 (runF true al bit fl (a0, 18446744073709551615, 0, []) k').2.1] 35 (0, 0)) ∧ LogAt B bl u'' (m0 + (runF true al bit fl (a0, 18446744073709551615, 0, []) k').2.2.1) (xs ++ (runF true al bit fl (a0, 18446744073709551615, 0, []) k').2.2.2) w2 ∧ Fr ba bl u.ownBlock w w2 ∧ Next w u.ownBlock u''.ownBlock from
        fun m ug w2 u2 h hl2 hf2 hn2 => ⟨k + 1, u2, by omega, by go_num, by rw [Hrun.out, h]; exact hf2.keep HAJ.out hba hba (fun e => HUB.out e.symm), by rw [Hrun.out, h]; simpa [Nat.add_assoc, List.append_assoc] using hl2, HF.out.trans HN.out hf2.widen, HN.out.trans hn2 HF.out.size⟩)
      have SetA := hid (show stepF true al k (bit k) (!true && fl k) (sa, sr, sc, sl) = (bits .or .u64 sa (bit k), sr, sc, sl) → ∃ (k' : Nat) (u'' : Value), k' ≤ n ∧ Value.int .i64 ((k : Int) + 1) = .int .i64 k' ∧ (wr.setCell ⟨ba, 2, none⟩ (.int .u64 (bits .or .u64 sa (bit k)))).heap[ba]? = some (.cells #[.pointer (some ⟨bm, 0, none⟩), .bool true, .int .u64 (runF true al bit fl (a0, 18446744073709551615, 0, []) k').1, .int .u64 (runF true al bit fl (a0, 18446744073709551615, 0, []) k').2.1] 35 (0, 0)) ∧ LogAt B bl u'' (m0 + (runF true al bit fl (a0, 18446744073709551615, 0, []) k').2.2.1) (xs ++ (runF true al bit fl (a0, 18446744073709551615, 0, []) k').2.2.2) (wr.setCell ⟨ba, 2, none⟩ (.int .u64 (bits .or .u64 sa (bit k)))) ∧ Fr ba bl u.ownBlock w (wr.setCell ⟨ba, 2, none⟩ (.int .u64 (bits .or .u64 sa (bit k)))) ∧ Next w u.ownBlock u''.ownBlock from
        fun h => ⟨k + 1, u', by omega, by go_num, by rw [Hrun.out, h]; exact heap_set HAJ.out 2 _, by rw [Hrun.out, h]; exact HL.out.setCell ba 2 _ hba HUB.out, HF.out.setCell ba 2 _ (.inl rfl), HN.out⟩)
      have SetR := hid (show stepF true al k (bit k) (!true && fl k) (sa, sr, sc, sl) = (sa, bits .or .u64 sr (bit k), sc, sl) → ∃ (k' : Nat) (u'' : Value), k' ≤ n ∧ Value.int .i64 ((k : Int) + 1) = .int .i64 k' ∧ (wr.setCell ⟨ba, 3, none⟩ (.int .u64 (bits .or .u64 sr (bit k)))).heap[ba]? = some (.cells #[.pointer (some ⟨bm, 0, none⟩), .bool true, .int .u64 (runF true al bit fl (a0, 18446744073709551615, 0, []) k').1, .int .u64 (runF true al bit fl (a0, 18446744073709551615, 0, []) k').2.1] 35 (0, 0)) ∧ LogAt B bl u'' (m0 + (runF true al bit fl (a0, 18446744073709551615, 0, []) k').2.2.1) (xs ++ (runF true al bit fl (a0, 18446744073709551615, 0, []) k').2.2.2) (wr.setCell ⟨ba, 3, none⟩ (.int .u64 (bits .or .u64 sr (bit k)))) ∧ Fr ba bl u.ownBlock w (wr.setCell ⟨ba, 3, none⟩ (.int .u64 (bits .or .u64 sr (bit k)))) ∧ Next w u.ownBlock u''.ownBlock from
        fun h => ⟨k + 1, u', by omega, by go_num, by rw [Hrun.out, h]; exact heap_set HAJ.out 3 _, by rw [Hrun.out, h]; exact HL.out.setCell ba 3 _ hba HUB.out, HF.out.setCell ba 3 _ (.inl rfl), HN.out⟩)
      generalize bit k = x at *
      generalize fl k = r at *
      clear Hcpf Hcrf
      by_cases hx : x = 0
      · have hxb : (x == 0) = true := by simpa using hx
        clear hx
        have HS := hid (show stepF true al k x (!true && r) (sa, sr, sc, sl) = (sa, sr, sc, sl) from by simp [stepF, hxb])
        go_wp2
        go_roundw
        case rel => exact Same.out HS.out
        case measure => simp [intOf]; omega
      · have hxb : (x == 0) = false := by simpa using hx
        clear hx
        cases hu : (bits BinOp.andNot IntKind.u64 x al != 0) with
        | true =>
          have HS := hid (show stepF true al k x (!true && r) (sa, sr, sc, sl) = (sa, sr, sc + 1, sl ++ fault 1 k (bits .andNot .u64 x al) 0) from by simp [stepF, hxb, hu])
          go_wp2_with fail
          refine (log_any 11 (by decide) B bl u' (m0 + sc) (xs ++ sl) 1 k (bits .andNot .u64 x al) 0 wr HL.out (by omega)).mono ?_
          rintro e w2 ⟨u2, rfl, hl2, hf2, hn2⟩
          have HL2 := hid hl2; have HF2 := hid hf2; have HN2 := hid hn2
          clear hl2 hf2 hn2
          go_wp2
          go_roundw
          case rel => exact Fault.out 1 (bits .andNot .u64 x al) w2 u2 HS.out HL2.out HF2.out HN2.out
          case measure => simp [intOf]; omega
        | false =>
          have HS := hid (show stepF true al k x (!true && r) (sa, sr, sc, sl) = (bits .or .u64 sa x, sr, sc, sl) from by simp [stepF, hxb, hu])
          go_wp2
          go_roundw
          case rel => exact SetA.out HS.out
          case measure => simp [intOf]; omega

    · have hkn' : (n : Int) ≤ (k : Int) := by omega
      have hkk : k = n := by omega
      have HL := hid hlog; have HF := hid hfr; have HN := hid hnx; have HAJ := hid hadj; have HKK := hid hkk
      clear hlog hfr hnx hadj hm hub' a_2 a_3 z_2 z_3 m_1 m_3 hkk
      go_wp2
      go_end0
      have e := HKK.out
      subst e
      refine ⟨u', rfl, ?_, ?_, HF.out, HN.out⟩
      · rw [Hs.out]; exact HAJ.out
      · rw [Hs.out]; exact HL.out

end Go.Proofs.Ybulkchvi
