import Derived.Test.Ybulkchvi2
namespace Go.Proofs.Ybulkchvi
open Go.RowKit
set_option linter.unusedVariables false
set_option linter.unusedSimpArgs false
set_option maxRecDepth 100000

set_option maxHeartbeats 1000000 in
/-- apply where a first statement stands and one of the two is with =: one fault -/
theorem apply_beside8 (B ba bl bm gp gr bf : Nat) (n : Nat) (al a0 r0 : Int) (rel st frel fs : Int) (fex aex : Bool) (hb : (fex || aex) = true) (u : Value) (m0 : Nat) (hm0 : m0 ≤ 1000) (xs : List Value) (w : World) (fv1 fv2 : Value)
    (hAdj : w.heap[ba]? = some (.cells #[.pointer (some ⟨bf, 0, none⟩), .bool fex, .int .u64 a0, .int .u64 r0] 35 (0, 0)))
    (hFst : w.heap[bf]? = some (.cells #[.int .u8 frel, .bool fex, fv1, fv2, .int .i64 fs] 38 (0, 0)))
    (hAdm : w.heap[bm]? = some (.cells #[.int .u8 rel, .bool aex, .slice (some ⟨gp, 0, none⟩) n n, .slice (some ⟨gr, 0, none⟩) n n, .int .i64 st] 38 (0, 0)))
    (hl : LogAt B bl u m0 xs w) :
    Calls Yba.prog 7 #[.pointer (some ⟨ba, 0, none⟩), .pointer (some ⟨bm, 0, none⟩), .int .u64 al, .func (Fn.func 8) #[] #[.pointer (some ⟨bl, 0, none⟩)]] w (ApplyPost B ba bl (.pointer (some ⟨bf, 0, none⟩)) fex u m0 xs (a0, r0, 1, fault 0 0 0 fs) w) := by
  have hba : ba ≠ bl := by intro e; subst e; have := hl.2.1; rw [hAdj] at this; simp at this
  have hub : u.ownBlock ≠ some ba := own_ne (u0 := u) hl.2.2 hAdj (by decide)
  have Hl := hid hl; have HAdj := hid hAdj; have Hub := hid hub
  have a_0 : w.cell? ⟨ba, 0, none⟩ = some (.pointer (some ⟨bf, 0, none⟩)) := by rw [cell_of hAdj]; rfl
  have a_1 : w.cell? ⟨ba, 1, none⟩ = some (.bool fex) := by rw [cell_of hAdj]; rfl
  have m_1 : w.cell? ⟨bm, 1, none⟩ = some (.bool aex) := by rw [cell_of hAdm]; rfl
  have f_4 : w.cell? ⟨bf, 4, none⟩ = some (.int .i64 fs) := by rw [cell_of hFst]; rfl
  clear hl hAdj hAdm hub hFst
  have fin : ∀ (e : Ending) (w' : World), (∃ u', e = .returned (.tuple #[]) ∧ LogAt B bl u' (m0 + 1) (xs ++ fault 0 0 0 fs) w' ∧ Fr bl bl u.ownBlock w w' ∧ Next w u.ownBlock u'.ownBlock) → ApplyPost B ba bl (.pointer (some ⟨bf, 0, none⟩)) fex u m0 xs (a0, r0, 1, fault 0 0 0 fs) w (.returned (.tuple #[])) w' := by
    rintro e w' ⟨u', rfl, h1, h2, h3⟩
    exact ⟨u', rfl, h2.keep HAdj.out hba hba (fun e => Hub.out e.symm), h1, h2.widen, h3⟩
  have Fin := hid fin
  clear fin
  cases fex with
  | true =>
    go_enter Yba.func7, Yba.ntmps7
    go_wp2_with fail
    refine (log_any 8 (.inl rfl) B bl u m0 xs 0 0 0 fs w Hl.out (by omega)).mono ?_
    rintro e w' ⟨u', rfl, hh⟩
    have hfin := hid (Fin.out _ w' ⟨u', rfl, hh⟩)
    clear hh
    go_wp2
    go_returns
    exact hfin.out
  | false =>
    obtain rfl : aex = true := by simpa using hb
    go_enter Yba.func7, Yba.ntmps7
    go_wp2_with fail
    refine (log_any 8 (.inl rfl) B bl u m0 xs 0 0 0 fs w Hl.out (by omega)).mono ?_
    rintro e w' ⟨u', rfl, hh⟩
    have hfin := hid (Fin.out _ w' ⟨u', rfl, hh⟩)
    clear hh
    go_wp2
    go_returns
    exact hfin.out
end Go.Proofs.Ybulkchvi
