import Derived.Test.YbulkchuuGreatDoorA
namespace Go.Proofs.YbulkchuuGreatDoor
open Go.RowKit
set_option linter.unusedVariables false
set_option linter.unusedSimpArgs false
set_option maxRecDepth 100000

/-- newNameCache: a pointer to a new block -/
theorem newNameCache8 (w : World) : Calls Ybaz.prog 8 #[] w fun e w' => (∃ b, e = .returned (.pointer (some ⟨b, 0, none⟩))) ∧ Below w.heap.size w w' := by
  have hmm := @run_makeMap Ybaz.prog
  go_enter Ybaz.func8, Ybaz.ntmps8
  go_wp2
  go_ret
  refine ⟨⟨_, rfl⟩, ?_⟩
  refine (((((((Below.refl _ w).alloc (Nat.le_refl _) _).alloc ?_ _).alloc ?_ _).alloc ?_ _).alloc ?_ _).alloc ?_ _)
  all_goals (simp <;> omega)

/-- a given file, as data -/
structure DIn where
  ra : Option Addr
  rn : Nat
  rc : Nat
  repo : Nat → ByteArray
  ua : Option Addr
  un : Nat
  uc : Nat
  user : Nat → ByteArray
  ga : Option Addr
  gn : Nat
  gc : Nat
  grp : Nat → Int
  na : Option Addr
  nn : Nat
  nc : Nat
  named : Nat → ByteArray
  n : Int
  la : Option Addr
  ln : Nat
  lc : Nat
  lu : Nat → ByteArray
  lga : Nat → Option Addr
  lgn : Nat → Nat
  lgc : Nat → Nat
  lg : Nat → Nat → Int
  wa : Option Addr
  wn : Nat
  wc : Nat
  wga : Nat → Option Addr
  wgn : Nat → Nat
  wgc : Nat → Nat
  wg : Nat → Nat → Int
def StrRow (Bd : Nat) (a : Option Addr) (n : Nat) (f : Nat → ByteArray) (w : World) : Prop := ∀ j, j < n → ∃ bb off, a = some ⟨bb, off, none⟩ ∧ bb < Bd ∧ w.cell? ⟨bb, off + j, none⟩ = some (.string (f j)) ∧ (f j).size ≤ 140737488351232
def U8Row (Bd : Nat) (a : Option Addr) (n : Nat) (f : Nat → Int) (w : World) : Prop := ∀ j, j < n → ∃ bb off, a = some ⟨bb, off, none⟩ ∧ bb < Bd ∧ w.cell? ⟨bb, off + j, none⟩ = some (.int .u8 (f j)) ∧ 0 ≤ f j ∧ f j ≤ 255
theorem StrRow.below {Bd : Nat} {a : Option Addr} {n : Nat} {f : Nat → ByteArray} {w w' : World} (h : StrRow Bd a n f w) (hb : Below Bd w w') : StrRow Bd a n f w' := fun j hj => by
  obtain ⟨bb, off, h1, h2, h3, h4⟩ := h j hj
  exact ⟨bb, off, h1, h2, (hb.cell (p := ⟨bb, off + j, none⟩) h2).trans h3, h4⟩
theorem U8Row.below {Bd : Nat} {a : Option Addr} {n : Nat} {f : Nat → Int} {w w' : World} (h : U8Row Bd a n f w) (hb : Below Bd w w') : U8Row Bd a n f w' := fun j hj => by
  obtain ⟨bb, off, h1, h2, h3, h4⟩ := h j hj
  exact ⟨bb, off, h1, h2, (hb.cell (p := ⟨bb, off + j, none⟩) h2).trans h3, h4⟩
/-- the file's rows lie in blocks below Bd -/
structure InD (Bd : Nat) (D : DIn) (w : World) : Prop where
  repo : StrRow Bd D.ra D.rn D.repo w
  user : StrRow Bd D.ua D.un D.user w
  grp : U8Row Bd D.ga D.gn D.grp w
  named : StrRow Bd D.na D.nn D.named w
  n0 : 0 ≤ D.n ∧ D.n ≤ 255
  list : ∀ j, j < D.ln → ∃ bb off, D.la = some ⟨bb, off, none⟩ ∧ bb < Bd ∧ w.cell? ⟨bb, off + j * 2, none⟩ = some (.string (D.lu j)) ∧ w.cell? ⟨bb, off + j * 2 + 1, none⟩ = some (.slice (D.lga j) (D.lgn j) (D.lgc j)) ∧ (D.lu j).size ≤ 140737488351232 ∧ U8Row Bd (D.lga j) (D.lgn j) (D.lg j) w
  within : ∀ j, j < D.wn → ∃ bb off, D.wa = some ⟨bb, off, none⟩ ∧ bb < Bd ∧ w.cell? ⟨bb, off + j, none⟩ = some (.slice (D.wga j) (D.wgn j) (D.wgc j)) ∧ U8Row Bd (D.wga j) (D.wgn j) (D.wg j) w
theorem InD.below {Bd : Nat} {D : DIn} {w w' : World} (h : InD Bd D w) (hb : Below Bd w w') : InD Bd D w' where
  repo := h.repo.below hb
  user := h.user.below hb
  grp := h.grp.below hb
  named := h.named.below hb
  n0 := h.n0
  list j hj := by
    obtain ⟨bb, off, h1, h2, h3, h4, h5, h6⟩ := h.list j hj
    exact ⟨bb, off, h1, h2, (hb.cell (p := ⟨bb, off + j * 2, none⟩) h2).trans h3, (hb.cell (p := ⟨bb, off + j * 2 + 1, none⟩) h2).trans h4, h5, h6.below hb⟩
  within j hj := by
    obtain ⟨bb, off, h1, h2, h3, h4⟩ := h.within j hj
    exact ⟨bb, off, h1, h2, (hb.cell (p := ⟨bb, off + j, none⟩) h2).trans h3, h4.below hb⟩
def DIn.cells (D : DIn) : Array Value := #[.slice D.ra D.rn D.rc, .slice D.ua D.un D.uc, .slice D.ga D.gn D.gc, .slice D.na D.nn D.nc, .int .u8 D.n, .slice D.la D.ln D.lc, .slice D.wa D.wn D.wc]
def DAt (db : Nat) (D : DIn) (w : World) : Prop := w.heap[db]? = some (.cells D.cells 58 (0, 0))
structure Small (D : DIn) : Prop where
  rn : D.rn ≤ 300
  un : D.un ≤ 300
  gn : D.gn ≤ 300
  nn : D.nn ≤ 300
  ln : D.ln ≤ 300
  wn : D.wn ≤ 300
  lg : ∀ j, j < D.ln → D.lgn j ≤ 300
  wg : ∀ j, j < D.wn → D.wgn j ≤ 300
def BigPost (D : DIn) (w : World) (e : Ending) (w' : World) : Prop := ∃ b, e = .returned (.bool b) ∧ (b = false → Small D) ∧ Below w.heap.size w w'
theorem BigPost.yes {D : DIn} {w w' : World} (h : Below w.heap.size w w') : BigPost D w (.returned (.bool true)) w' := ⟨true, rfl, nofun, h⟩

set_option maxHeartbeats 4000000 in
theorem big12 (Bd db : Nat) (D : DIn) (w : World) (hBw : Bd ≤ w.heap.size) (hD : InD Bd D w) (hA : DAt db D w) :
    Calls Ybaz.prog 12 #[.pointer (some ⟨db, 0, none⟩)] w (BigPost D w) := by
  have HD := hid hD; have HA := hid hA
  have hdb := heap_lt hA
  have c0 : w.cell? ⟨db, 0, none⟩ = some (.slice D.ra D.rn D.rc) := by rw [cell_of hA]; rfl
  have c1 : w.cell? ⟨db, 1, none⟩ = some (.slice D.ua D.un D.uc) := by rw [cell_of hA]; rfl
  have c2 : w.cell? ⟨db, 2, none⟩ = some (.slice D.ga D.gn D.gc) := by rw [cell_of hA]; rfl
  have c3 : w.cell? ⟨db, 3, none⟩ = some (.slice D.na D.nn D.nc) := by rw [cell_of hA]; rfl
  have c5 : w.cell? ⟨db, 5, none⟩ = some (.slice D.la D.ln D.lc) := by rw [cell_of hA]; rfl
  have c6 : w.cell? ⟨db, 6, none⟩ = some (.slice D.wa D.wn D.wc) := by rw [cell_of hA]; rfl
  obtain ⟨rn, hrn⟩ : ∃ x, D.rn = x := ⟨_, rfl⟩
  obtain ⟨un, hun⟩ : ∃ x, D.un = x := ⟨_, rfl⟩
  obtain ⟨gn, hgn⟩ : ∃ x, D.gn = x := ⟨_, rfl⟩
  obtain ⟨nn, hnn⟩ : ∃ x, D.nn = x := ⟨_, rfl⟩
  obtain ⟨ln, hln⟩ : ∃ x, D.ln = x := ⟨_, rfl⟩
  obtain ⟨wn, hwn⟩ : ∃ x, D.wn = x := ⟨_, rfl⟩
  rw [hrn] at c0; rw [hun] at c1; rw [hgn] at c2; rw [hnn] at c3; rw [hln] at c5; rw [hwn] at c6
  have HN := hid (And.intro hrn (And.intro hun (And.intro hgn (And.intro hnn (And.intro hln hwn)))))
  clear hD hA hrn hun hgn hnn hln hwn
  go_enter Ybaz.func12, Ybaz.ntmps12
  by_cases hrn : 300 < rn
  · have hrni : (300 : Int) < (rn : Int) := by omega
    go_wp2
    go_ret
    exact BigPost.yes (Below.refl _ _)
  · have hrni : ¬ (300 : Int) < (rn : Int) := by omega
    by_cases hun : 300 < un
    · have huni : (300 : Int) < (un : Int) := by omega
      go_wp2
      go_ret
      exact BigPost.yes (Below.refl _ _)
    · have huni : ¬ (300 : Int) < (un : Int) := by omega
      by_cases hgn : 300 < gn
      · have hgni : (300 : Int) < (gn : Int) := by omega
        go_wp2
        go_ret
        exact BigPost.yes (Below.refl _ _)
      · have hgni : ¬ (300 : Int) < (gn : Int) := by omega
        by_cases hnn : 300 < nn
        · have hnni : (300 : Int) < (nn : Int) := by omega
          go_wp2
          go_ret
          exact BigPost.yes (Below.refl _ _)
        · have hnni : ¬ (300 : Int) < (nn : Int) := by omega
          by_cases hln : 300 < ln
          · have hlni : (300 : Int) < (ln : Int) := by omega
            go_wp2
            go_ret
            exact BigPost.yes (Below.refl _ _)
          · have hlni : ¬ (300 : Int) < (ln : Int) := by omega
            by_cases hwn : 300 < wn
            · have hwni : (300 : Int) < (wn : Int) := by omega
              go_wp2
              go_ret
              exact BigPost.yes (Below.refl _ _)
            · have hwni : ¬ (300 : Int) < (wn : Int) := by omega
              go_wp2
              go_loopw [58] (fun vk wr => ∃ k : Nat, k ≤ ln ∧ vk = .int .i64 k ∧ Below w.heap.size w wr ∧ ∀ j, j < k → D.lgn j ≤ 300) (fun vk _ => ln - (intOf vk).toNat)
              case atStart => exact ⟨0, by omega, rfl, Below.refl _ _, fun j hj => by omega⟩
              case round =>
                generalize wr = wq at *
                obtain ⟨k, hk, rfl, hB, hS⟩ := hrel
                have HB := hid hB; have HS := hid hS
                have hszq := hB.size
                by_cases hkn : k < ln
                · have hki : (k : Int) < (ln : Int) := by omega
                  obtain ⟨bb, off, hla, hbb, s0, s1, _, _⟩ := HD.out.list k (by have := HN.out.2.2.2.2.1; omega)
                  have d0 := (hB.cell (p := ⟨bb, off + k * 2, none⟩) (by show bb < w.heap.size; omega)).trans s0
                  have d1 := (hB.cell (p := ⟨bb, off + k * 2 + 1, none⟩) (by show bb < w.heap.size; omega)).trans s1
                  obtain ⟨LA, hLA⟩ : ∃ x, D.la = x := ⟨_, rfl⟩
                  rw [hLA] at hla ⊢
                  subst hla
                  obtain ⟨Lg, hLg⟩ : ∃ x, D.lgn k = x := ⟨_, rfl⟩
                  rw [hLg] at d1
                  have HLg := hid hLg
                  clear hB hS s0 s1 hLA hLg
                  by_cases hbig : 300 < Lg
                  · have hbigi : (300 : Int) < (Lg : Int) := by omega
                    go_wp2
                    go_ret
                    exact BigPost.yes (HB.out.alloc hszq _)
                  · have hbigi : ¬ (300 : Int) < (Lg : Int) := by omega
                    go_wp2
                    go_roundw
                    case rel =>
                      refine ⟨k + 1, by omega, by go_num, HB.out.alloc hszq _, fun j hj => ?_⟩
                      by_cases e : j = k
                      · subst e; rw [HLg.out]; omega
                      · exact HS.out j (by omega)
                    case measure => simp [intOf] <;> omega
                · have hki : ¬ (k : Int) < (ln : Int) := by omega
                  obtain rfl : k = ln := by omega
                  have e6 := (hB.cell (p := ⟨db, 6, none⟩) hdb).trans c6
                  clear hB hS
                  go_wp2
                  go_loopw [72] (fun vk wr => ∃ t : Nat, t ≤ wn ∧ vk = .int .i64 t ∧ wr = wq ∧ ∀ j, j < t → D.wgn j ≤ 300) (fun vk _ => wn - (intOf vk).toNat)
                  case atStart => exact ⟨0, by omega, rfl, rfl, fun j hj => by omega⟩
                  case round =>
                    obtain ⟨t, ht, rfl, rfl, hT⟩ := hrel
                    have HT := hid hT
                    clear hT
                    by_cases htn : t < wn
                    · have hti : (t : Int) < (wn : Int) := by omega
                      obtain ⟨bb, off, hwa, hbb, s0, _⟩ := HD.out.within t (by have := HN.out.2.2.2.2.2; omega)
                      have d0 := (HB.out.cell (p := ⟨bb, off + t, none⟩) (by show bb < w.heap.size; omega)).trans s0
                      obtain ⟨WA, hWA⟩ : ∃ x, D.wa = x := ⟨_, rfl⟩
                      rw [hWA] at hwa ⊢
                      subst hwa
                      obtain ⟨Wg, hWg⟩ : ∃ x, D.wgn t = x := ⟨_, rfl⟩
                      rw [hWg] at d0
                      have HWg := hid hWg
                      clear s0 hWA hWg
                      by_cases hbig : 300 < Wg
                      · have hbigi : (300 : Int) < (Wg : Int) := by omega
                        go_wp2
                        go_ret
                        exact BigPost.yes HB.out
                      · have hbigi : ¬ (300 : Int) < (Wg : Int) := by omega
                        go_wp2
                        go_roundw
                        case rel =>
                          refine ⟨t + 1, by omega, by go_num, by first | rfl | trivial, fun j hj => ?_⟩
                          by_cases e : j = t
                          · subst e; rw [HWg.out]; omega
                          · exact HT.out j (by omega)
                        case measure => simp [intOf] <;> omega
                    · have hti : ¬ (t : Int) < (wn : Int) := by omega
                      go_wp2
                      go_ret
                      obtain ⟨e1, e2, e3, e4, e5, e6⟩ := HN.out
                      exact ⟨false, rfl, fun _ => ⟨by omega, by omega, by omega, by omega, by omega, by omega, fun j hj => HS.out j (by omega), fun j hj => HT.out j (by omega)⟩, HB.out⟩
end Go.Proofs.YbulkchuuGreatDoor
