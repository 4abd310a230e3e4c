import Derived.Test.YbulkchuuGreatDoorZ1
import Derived.Test.YbulkchuuGreatDoorR2
import Derived.Test.YbulkchuuGreatDoorQ2
import Derived.Test.YbulkchuuGreatDoorM4
import Derived.Test.YbulkchuuGreatDoorC1
import Derived.Deep.RegionHeld3
import Derived.Test.YbulkchuuGreatDoorP3
namespace Go.Proofs.YbulkchuuGreatDoor
open Go.RowKit Go.Maps
set_option linter.unusedVariables false
set_option linter.unusedSimpArgs false
set_option maxRecDepth 100000

/-- the repositories of the two files -/
def RepoTo (DD : Nat → DIn) (k : Nat) (x : List UInt8) : Prop := x = [] ∨ ∃ i, i < k ∧ ∃ j, j < (DD i).rn ∧ x = ((DD i).repo j).data.toList
structure CompIn (Bd : Nat) (fb : Nat → Nat) (DD : Nat → DIn) (w : World) : Prop where
  lo : Bd ≤ w.heap.size
  files : Files Bd fb DD (fun i => listOf (DD i)) (fun i => withinOf (DD i)) w
  names : ∀ i, i < 2 → NamesOk (DD i)
  seg : ∃ T fr, w.heap[0]? = some (.cells segCells T fr)
  n255 : ∀ i, i < 2 → 0 ≤ (DD i).n ∧ (DD i).n ≤ 255
theorem info4 : (Ybaz.prog.info? 4).map (fun i => (i.zero, i.size, i.bytes)) = some (some (.bool false), 1, 1) := by kernel_rfl
theorem info109 : (Ybaz.prog.info? 109).map (fun i => (i.zero, i.size, i.bytes)) = some (some (.agg #[.string ⟨#[]⟩, .slice none 0 0, .pointer none, .slice none 0 0, .bool false, .slice none 0 0]), 6, 104) := by kernel_rfl
theorem index64a (p q : Option Addr) (W : World) : (Instr.index 64 (.agg #[.pointer p, .pointer q]) (.int .i64 0)).run Ybaz.prog W = .ok (.pointer p) W := by
  have h := Ybaz.sizeOf62
  have h2 := Ybaz.isAgg62
  have h3 := run_underlying Ybaz.underlying64 
  simp [Instr.index, asIntOf, part, h3, h, h2, Result.andThen]
theorem index64b (p q : Option Addr) (W : World) : (Instr.index 64 (.agg #[.pointer p, .pointer q]) (.int .i64 1)).run Ybaz.prog W = .ok (.pointer q) W := by
  have h := Ybaz.sizeOf62
  have h2 := Ybaz.isAgg62
  have h3 := run_underlying Ybaz.underlying64 
  simp [Instr.index, asIntOf, part, h3, h, h2, Result.andThen]
theorem index64 (fb : Nat → Nat) (k : Nat) (hk : k < 2) (W : World) : (Instr.index 64 (.agg #[.pointer (some ⟨fb 0, 0, none⟩), .pointer (some ⟨fb 1, 0, none⟩)]) (.int .i64 (k : Int))).run Ybaz.prog W = .ok (.pointer (some ⟨fb k, 0, none⟩)) W := by
  have : k = 0 ∨ k = 1 := by omega
  rcases this with rfl | rfl
  · exact index64a _ _ W
  · exact index64b _ _ W
def AskTo (D : DIn) (t g : Nat) : Prop := ∃ t', t' < t ∧ D.un ≤ t' ∧ t' - D.un < D.gn ∧ 0 < D.n ∧ D.grp (t' - D.un) % D.n = (g : Int)
theorem AskTo.succ {D : DIn} {t g : Nat} : AskTo D (t + 1) g ↔ AskTo D t g ∨ (D.un ≤ t ∧ t - D.un < D.gn ∧ 0 < D.n ∧ D.grp (t - D.un) % D.n = (g : Int)) := by
  constructor
  · rintro ⟨t', h, k⟩
    by_cases e : t' = t
    · subst e; exact .inr k
    · exact .inl ⟨t', by omega, k⟩
  · rintro (⟨t', h, k⟩ | k)
    · exact ⟨t', by omega, k⟩
    · exact ⟨t, by omega, k⟩
theorem AskTo.all {D : DIn} {g : Nat} : AskTo D (nEnts D) g ↔ AskedP D g := by
  constructor
  · rintro ⟨t', h, h1, h2, h3, h4⟩
    exact ⟨h3, t' - D.un, h2, h4⟩
  · rintro ⟨h1, j, h2, h3⟩
    refine ⟨D.un + j, ?_, by omega, by omega, h1, by rw [show D.un + j - D.un = j by omega]; exact h3⟩
    unfold nEnts
    rw [if_pos h1]
    omega
theorem AskAt.set {ab an : Nat} {asked : Nat → Bool} {w : World} (h : AskAt ab an asked w) (g : Nat) : AskAt ab an (fun j => if j = g then true else asked j) (w.setCell ⟨ab, g, none⟩ (.bool true)) := by
  obtain ⟨cur, h1, h2, h3⟩ := h
  refine ⟨_, heap_set h1 g _, by simpa using h2, fun j hj => ?_⟩
  rw [Array.getElem?_setIfInBounds]
  by_cases e : g = j
  · subst e; simp; omega
  · have e2 : ¬ j = g := fun e' => e e'.symm
    rw [if_neg e]; simp only [if_neg e2]; exact h3 j hj
theorem own_ask {w : World} {B g n : Nat} (h : w.ownsRow B 4 1 (.slice (some ⟨g, 0, none⟩) n n) n (madeCells #[.bool false] n).toList) : AskAt g n (fun _ => false) w := by
  rcases h.2 with ⟨h, _⟩ | ⟨g', cap, cur, h, _, hg, _, _, hs, ht⟩
  · cases h
  · injection h with e1 e2 e3
    injection e1 with e1
    injection e1 with e1
    subst e1 e3
    refine ⟨cur, hg, by omega, fun k hk => ?_⟩
    have : (cur.toList.take (n * 1))[k]? = some (.bool false) := by rw [ht]; simp [madeCells, hk, Nat.mod_one]
    rw [List.getElem?_take, if_pos (by omega)] at this
    simpa using this
theorem cell_ne {W : World} {b o a j : Nat} {v x : Value} (h : b ≠ a) (hx : W.cell? ⟨b, o, none⟩ = some x) : (W.setCell ⟨a, j, none⟩ v).cell? ⟨b, o, none⟩ = some x := (cell_eq (Below.heap_setCell _ _ _ _ (by simpa using h)) o).trans hx
theorem repeat_len (n : Nat) : (Lib.repeatL [63] n).length = n := by
  induction n with
  | zero => rfl
  | succ n ih => simp [Lib.repeatL]; exact ih
/-- what newComparison returns -/
def CPost (Bd : Nat) (fb : Nat → Nat) (DD : Nat → DIn) (w : World) (e : Ending) (w' : World) : Prop := ∃ (K : CK) (p m : Nat → Value) (T : Nat → Prop) (ss : List (List UInt8)) (lg : Nat), e = .returned (.pointer (some ⟨K.cb, 0, none⟩)) ∧ K.fb = fb ∧ K.DD = DD ∧ K.uL = uName ss ⟨(Lib.repeatL [63] (lg + 1)).toArray⟩ ∧ K.U = ss.length + 2 ∧
  w'.heap[K.cb]? = some (.cells (K.cells p m) 80 (0, 0)) ∧ Base Bd K w' ∧ (∀ k, k < 2 → Done Bd K k (p k) (m k) T w') ∧ (∀ b, T b → b < w'.heap.size) ∧
  (ss.Pairwise (fun a b => decide (a ≤ b) = true) ∧ ss.Nodup ∧ (∀ x, x ∈ ss ↔ SetTo DD 2 x) ∧ (∀ x ∈ ss, x.length ≤ lg) ∧ (lg = 0 ∨ ∃ x ∈ ss, x.length = lg) ∧ lg ≤ 140737488351232 ∧ ss.length ≤ 600000) ∧
  (K.rs.Pairwise (fun a b => decide (a ≤ b) = true) ∧ K.rs.Nodup ∧ (∀ x, x ∈ K.rs ↔ RepoTo DD 2 x) ∧ K.rs.length ≤ 1000000) ∧ Below w.heap.size w w'
theorem comp_same (K : CK) (p m : Nat → Value) : ((((K.cells p m).setIfInBounds 10 (.slice none 0 0)).setIfInBounds 11 (.bool false)).setIfInBounds 12 (.slice none 0 0)).setIfInBounds 13 (.slice none 0 0) = K.cells p m := by
  simp [CK.cells, compCells, nilS]
theorem comp_same10 (K : CK) (p m : Nat → Value) : (K.cells p m).setIfInBounds 10 (.slice none 0 0) = K.cells p m := by
  simp [CK.cells, compCells, nilS]
def sh4 (x : World) (cb : Nat) : World := (((x.setCell ⟨cb, 10, none⟩ (.slice none 0 0)).setCell ⟨cb, 11, none⟩ (.bool false)).setCell ⟨cb, 12, none⟩ (.slice none 0 0)).setCell ⟨cb, 13, none⟩ (.slice none 0 0)
/-- the last stores leave the comparison as it was -/
theorem comp_fin {K : CK} {p m : Nat → Value} {wq x1 x4 : World} (hc : wq.heap[K.cb]? = some (.cells (K.cells p m) 80 (0, 0))) (hb1 : Below wq.heap.size wq x1) (hb4 : Below ((sh4 x1 K.cb).alloc (.cells #[.slice none 0 0] 23)).heap.size ((sh4 x1 K.cb).alloc (.cells #[.slice none 0 0] 23)) x4) :
    (x4.setCell ⟨K.cb, 10, none⟩ (.slice none 0 0)).heap[K.cb]? = some (.cells (K.cells p m) 80 (0, 0)) ∧ Fr (fun b => b = K.cb) wq (x4.setCell ⟨K.cb, 10, none⟩ (.slice none 0 0)) ∧ x4.heap[K.cb]? = some (.cells (K.cells p m) 80 (0, 0)) := by
  have hcl := heap_lt hc
  have h1 : x1.heap[K.cb]? = some (.cells (K.cells p m) 80 (0, 0)) := (hb1.block _ hcl).trans hc
  have hF1 : Fr (fun b => b = K.cb) wq x1 := Fr.of_new hb1
  have h2 : (sh4 x1 K.cb).heap[K.cb]? = some (.cells (K.cells p m) 80 (0, 0)) := by
    unfold sh4
    rw [heap_set (heap_set (heap_set (heap_set h1 _ _) _ _) _ _) _ _, comp_same]
  have hF2 : Fr (fun b => b = K.cb) wq (sh4 x1 K.cb) := (((hF1.setCell K.cb 10 (.slice none 0 0) (.inl rfl)).setCell K.cb 11 (.bool false) (.inl rfl)).setCell K.cb 12 (.slice none 0 0) (.inl rfl)).setCell K.cb 13 (.slice none 0 0) (.inl rfl)
  generalize sh4 x1 K.cb = x2 at *
  have h3 : (x2.alloc (.cells #[.slice none 0 0] 23)).heap[K.cb]? = some (.cells (K.cells p m) 80 (0, 0)) := (Below.heap_alloc _ _ _ (heap_lt h2)).trans h2
  have hF3 := hF2.alloc (.cells #[.slice none 0 0] 23)
  have h4 : x4.heap[K.cb]? = some (.cells (K.cells p m) 80 (0, 0)) := (hb4.block _ (heap_lt h3)).trans h3
  have hF4 : Fr (fun b => b = K.cb) wq x4 := hF3.trans (Fr.of_new hb4)
  exact ⟨by rw [heap_set h4, comp_same10], hF4.setCell K.cb 10 _ (.inl rfl), h4⟩
end Go.Proofs.YbulkchuuGreatDoor
