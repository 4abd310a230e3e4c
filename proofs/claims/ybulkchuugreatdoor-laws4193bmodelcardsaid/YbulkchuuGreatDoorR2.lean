import Derived.Test.YbulkchuuGreatDoorR1
import Derived.Test.YbulkchuuGreatDoorP1
import Derived.Test.YbulkchuuGreatDoorB1
import Derived.Test.YbulkchuuGreatDoorC2
import Derived.Test.YbulkchuuGreatDoorC3
namespace Go.Proofs.YbulkchuuGreatDoor
open Go.RowKit Go.Maps
set_option linter.unusedVariables false
set_option linter.unusedSimpArgs false
set_option maxRecDepth 100000

def rgs : Code → List (Nat × Array Oper)
  | .region n ops _ => [(n, ops)]
  | .seq a b => rgs a ++ rgs b
  | .cond _ a b => rgs a ++ rgs b
  | .block _ a => rgs a
  | .loop a => rgs a
  | .rangeFunc _ _ a b => rgs a ++ rgs b
  | .scope a => rgs a
  | _ => []
def opsOf (f : Func) (n : Nat) : Array Oper := ((rgs (f.body.getD .skip)).findSome? (fun x => if x.1 == n then some x.2 else none)).getD #[]
def ops12 (f : Func) : Array Oper := opsOf f 12
def isOp (ops : Array Oper) (i : Nat) (op : Op) (d : Option Nat) : Prop := (ops[i]?).map (fun o => (o.op, o.dst, o.guard)) = some (op, d, none)
def hasDep (ops : Array Oper) (i j : Nat) : Bool := match ops[i]? with
  | some o => o.after.any fun e => Region.binds .any e && e.on == j
  | none => false
theorem dep_of {ops : Array Oper} {L : Nat → Bool} {i j : Nat} (hd : depsB ops L i = true) (h : hasDep ops i j = true) : L j = true := by
  unfold depsB hasDep at *
  split at h
  · rename_i o ho
    simp only [ho] at hd
    rw [Array.any_eq_true] at h
    obtain ⟨k, hk, h⟩ := h
    rw [Array.all_eq_true] at hd
    have := hd k hk
    simp only [Bool.and_eq_true, beq_iff_eq] at h
    simp only [Bool.or_eq_true, Bool.not_eq_true', h.1] at this
    rw [← h.2]
    rcases this with h | h
    · cases h
    · exact h
  · cases h
theorem wpOp_of {P : Program} {ops : Array Oper} {Q : Exit → Act → World → Prop} {i : Nat} {op : Op} {d : Option Nat} {K : Act → World → Prop} {a : Act} {w : World} (h : isOp ops i op d) (hK : ∀ o : Oper, o.op = op → o.dst = d → o.upon P a K Q ((execOp a.eval o).run P w)) : wpOp P ops Q i K a w := by
  unfold isOp at h
  cases ho : ops[i]? with
  | none => rw [ho] at h; cases h
  | some o =>
    rw [ho] at h
    simp only [Option.map_some, Option.some.injEq, Prod.mk.injEq] at h
    unfold wpOp
    rw [ho]
    simp only [Region.wanted, h.2.2, if_true]
    exact .inl (hK o h.1 h.2.1)
theorem o0 : isOp (ops12 Ybaz.f14) 0 (.move (.tmp 0)) (some 66) := by unfold isOp; kernel_rfl
theorem o1 : isOp (ops12 Ybaz.f14) 1 (.move (.tmp 1)) (some 67) := by unfold isOp; kernel_rfl
theorem o2 : isOp (ops12 Ybaz.f14) 2 (.build 64 #[(0, .tmp 66), (1, .tmp 67)]) (some 68) := by unfold isOp; kernel_rfl
theorem o3 : isOp (ops12 Ybaz.f14) 3 (.move (.tmp 5)) (some 69) := by unfold isOp; kernel_rfl
theorem o4 : isOp (ops12 Ybaz.f14) 4 (.call { callee := .value (.func 30), args := #[.tmp 69], argTypes := #[137] }) (some 70) := by unfold isOp; kernel_rfl
theorem o5 : isOp (ops12 Ybaz.f14) 5 (.call { callee := .value (.func 29), args := #[.tmp 70], argTypes := #[143] }) (some 71) := by unfold isOp; kernel_rfl
theorem o6 : isOp (ops12 Ybaz.f14) 6 (.move (.tmp 11)) (some 72) := by unfold isOp; kernel_rfl
theorem o7 : isOp (ops12 Ybaz.f14) 7 (.move (.tmp 11)) (some 73) := by unfold isOp; kernel_rfl
theorem o8 : isOp (ops12 Ybaz.f14) 8 (.call { callee := .builtin .len, args := #[.tmp 73], argTypes := #[22] }) (some 74) := by unfold isOp; kernel_rfl
theorem o9 : isOp (ops12 Ybaz.f14) 9 (.makeMap 67 (some (.tmp 74))) (some 75) := by unfold isOp; kernel_rfl
theorem o10 : isOp (ops12 Ybaz.f14) 10 (.move (.tmp 11)) (some 76) := by unfold isOp; kernel_rfl
theorem o11 : isOp (ops12 Ybaz.f14) 11 (.call { callee := .builtin .len, args := #[.tmp 76], argTypes := #[22] }) (some 77) := by unfold isOp; kernel_rfl
theorem o12 : isOp (ops12 Ybaz.f14) 12 (.makeSlice 23 (.tmp 77) (.tmp 77)) (some 78) := by unfold isOp; kernel_rfl
theorem o13 : isOp (ops12 Ybaz.f14) 13 (.makeMap 76 none) (some 79) := by unfold isOp; kernel_rfl
theorem o14 : isOp (ops12 Ybaz.f14) 14 (.move (.tmp 11)) (some 80) := by unfold isOp; kernel_rfl
theorem o15 : isOp (ops12 Ybaz.f14) 15 (.call { callee := .builtin .len, args := #[.tmp 80], argTypes := #[22] }) (some 81) := by unfold isOp; kernel_rfl
theorem o16 : isOp (ops12 Ybaz.f14) 16 (.makeSlice 77 (.tmp 81) (.tmp 81)) (some 82) := by unfold isOp; kernel_rfl
theorem o17 : isOp (ops12 Ybaz.f14) 17 (.call { callee := .value (.func 8), args := #[], argTypes := #[] }) (some 83) := by unfold isOp; kernel_rfl
theorem o18 : isOp (ops12 Ybaz.f14) 18 (.makeMap 78 none) (some 84) := by unfold isOp; kernel_rfl
theorem o19 : isOp (ops12 Ybaz.f14) 19 (.load 148 (.global 0)) (some 85) := by unfold isOp; kernel_rfl
theorem o20 : isOp (ops12 Ybaz.f14) 20 (.buildSlice 128 1 #[(0, .tmp 85)]) (some 86) := by unfold isOp; kernel_rfl
theorem o21 : isOp (ops12 Ybaz.f14) 21 (.call { callee := .value (.func 31), args := #[.tmp 86], argTypes := #[128] }) (some 87) := by unfold isOp; kernel_rfl
theorem o22 : isOp (ops12 Ybaz.f14) 22 (.insert 78 (.tmp 84) (.tmp 87) (.const (.int .i32 0))) (none) := by unfold isOp; kernel_rfl
theorem o23 : isOp (ops12 Ybaz.f14) 23 (.move (.tmp 84)) (some 88) := by unfold isOp; kernel_rfl
theorem o24 : isOp (ops12 Ybaz.f14) 24 (.makeMap 38 none) (some 89) := by unfold isOp; kernel_rfl
theorem o25 : isOp (ops12 Ybaz.f14) 25 (.build 80 #[(0, .tmp 68), (1, .tmp 71), (2, .tmp 72), (3, .tmp 75), (6, .tmp 78), (8, .tmp 79), (9, .tmp 82), (10, .tmp 83), (11, .tmp 88), (12, .tmp 89)]) (some 90) := by unfold isOp; kernel_rfl
theorem o26 : isOp (ops12 Ybaz.f14) 26 (.box 80 (.tmp 90)) (some 91) := by unfold isOp; kernel_rfl
theorem o27 : isOp (ops12 Ybaz.f14) 27 (.assign (.tmp 91)) (some 12) := by unfold isOp; kernel_rfl
theorem info3 : (Ybaz.prog.info? 3).map (fun i => (i.zero, i.size, i.bytes)) = some (some (.int .i64 0), 1, 8) := by kernel_rfl
theorem lex12 : lexOk (ops12 Ybaz.f14) = true := by kernel_rfl
theorem size12 : (ops12 Ybaz.f14).size = 28 := by kernel_rfl
/-- what the region takes: the two files, the set of repositories, the users, and the repositories sorted -/
structure In12 where
  p0 : Option Addr
  p1 : Option Addr
  sb : Nat
  ua : Option Addr
  un : Nat
  uc : Nat
  rs : List (List UInt8)
def S12 : List Nat := [12, 66, 67, 68, 69, 70, 71, 72, 73, 74, 75, 76, 77, 78, 79, 80, 81, 82, 83, 84, 85, 86, 87, 88, 89, 90, 91]
def slot12 (i : Nat) : Nat := if i = 27 then 12 else if i ≤ 21 then 66 + i else 65 + i
def maps12 : List Nat := [9, 13, 18, 24]
/-- slot12 k holds a map that was made here, none of the other maps -/
def NewMap (K : TypeId) (k B : Nat) (L : Nat → Bool) (a : Act) (w : World) : Prop := ∃ b, a.eval (.tmp (slot12 k)) = .map (some b) ∧ B ≤ b ∧ w.ownsMap Ybaz.prog K Rh b 0 (.map []) ∧ ∀ j, j ∈ maps12 → j ≠ k → L j = true → a.eval (.tmp (slot12 j)) ≠ .map (some b)
def segVal : Value := .agg segCells
def compCells (p0 p1 : Option Addr) (rv uv : Value) (ix : Nat) (pr0 pr1 mb0 mb1 ev su sa sc0 sc1 : Value) (rg : Nat) (sl : Value) (nm : Option Addr) (re ro : Nat) : Array Value :=
  #[.pointer p0, .pointer p1, rv, uv, .map (some ix), pr0, pr1, mb0, mb1, ev, su, sa, sc0, sc1, .map (some rg), sl, .pointer nm, .map (some re), .map (some ro)]
def nilS : Value := .slice none 0 0
def restKey : Lit := .string [47, 42, 42]
def restD : DataW Value := (DataW.map []).put restKey (.held (.int .i32 0))
def Fact (X : In12) (B : Nat) (L : Nat → Bool) (a : Act) (w : World) : Nat → Prop
  | 0 => a.eval (.tmp 66) = .pointer X.p0
  | 1 => a.eval (.tmp 67) = .pointer X.p1
  | 2 => a.eval (.tmp 68) = .agg #[.pointer X.p0, .pointer X.p1]
  | 3 => a.eval (.tmp 69) = .map (some X.sb)
  | 4 => ∃ cb, a.eval (.tmp 70) = .func (.func 74) #[] #[.pointer (some ⟨cb, 0, none⟩)] ∧ w.heap[cb]? = some (.cells #[.map (some X.sb)] 137 (0, 0))
  | 5 => w.ownsRow B 9 1 (a.eval (.tmp 71)) X.rs.length (X.rs.map encStr)
  | 6 => a.eval (.tmp 72) = .slice X.ua X.un X.uc
  | 7 => a.eval (.tmp 73) = .slice X.ua X.un X.uc
  | 8 => a.eval (.tmp 74) = .int .i64 X.un
  | 9 => NewMap 9 9 B L a w
  | 10 => a.eval (.tmp 76) = .slice X.ua X.un X.uc
  | 11 => a.eval (.tmp 77) = .int .i64 X.un
  | 12 => w.ownsRow B 3 1 (a.eval (.tmp 78)) X.un (madeCells #[.int .i64 0] X.un).toList
  | 13 => NewMap 9 13 B L a w
  | 14 => a.eval (.tmp 80) = .slice X.ua X.un X.uc
  | 15 => a.eval (.tmp 81) = .int .i64 X.un
  | 16 => w.ownsRow B 21 1 (a.eval (.tmp 82)) X.un (madeCells #[.int .i32 0] X.un).toList
  | 17 => ∃ b, a.eval (.tmp 83) = .pointer (some ⟨b, 0, none⟩)
  | 18 => ∃ b, a.eval (.tmp 84) = .map (some b) ∧ B ≤ b ∧ w.ownsMap Ybaz.prog 9 Rh b (if L 22 then 1 else 0) (if L 22 then restD else .map [])
  | 19 => a.eval (.tmp 85) = segVal
  | 20 => ∃ b, a.eval (.tmp 86) = .slice (some ⟨b, 0, none⟩) 1 1 ∧ w.heap[b]? = some (.cells segCells 148 (0, 0))
  | 21 => a.eval (.tmp 87) = .string ⟨#[47, 42, 42]⟩
  | 22 => True
  | 23 => a.eval (.tmp 88) = a.eval (.tmp 84)
  | 24 => NewMap 319 24 B L a w
  | 25 => L 9 = true ∧ ∃ ix rg re ro ra rc ea ec sa sc nm, a.eval (.tmp 75) = .map (some ix) ∧ a.eval (.tmp 79) = .map (some rg) ∧ a.eval (.tmp 84) = .map (some re) ∧ a.eval (.tmp 89) = .map (some ro) ∧ a.eval (.tmp 71) = .slice ra X.rs.length rc ∧ a.eval (.tmp 78) = .slice ea X.un ec ∧ a.eval (.tmp 82) = .slice sa X.un sc ∧ a.eval (.tmp 83) = .pointer (some ⟨nm, 0, none⟩) ∧
      a.eval (.tmp 90) = .agg (compCells X.p0 X.p1 (.slice ra X.rs.length rc) (.slice X.ua X.un X.uc) ix nilS nilS nilS nilS (.slice ea X.un ec) nilS (.bool false) nilS nilS rg (.slice sa X.un sc) (some ⟨nm, 0, none⟩) re ro)
  | 26 => ∃ cb, a.eval (.tmp 91) = .pointer (some ⟨cb, 0, none⟩) ∧ B ≤ cb ∧ ∃ cs, a.eval (.tmp 90) = .agg cs ∧ w.heap[cb]? = some (.cells cs 80 (0, 0))
  | 27 => a.eval (.tmp 12) = a.eval (.tmp 91)
  | _ => True
theorem slot_inj {j k : Nat} (hj : j < 28) (hk : k < 28) (hj2 : j ≠ 22) (hk2 : k ≠ 22) (h : slot12 j = slot12 k) : j = k := by
  unfold slot12 at h
  split at h <;> split at h <;> (try split at h) <;> (try split at h) <;> omega
theorem slot_mem {k : Nat} (hk : k < 28) (hk2 : k ≠ 22) : slot12 k ∈ S12 := by
  have : ∀ k, k < 28 → k ≠ 22 → slot12 k ∈ S12 := by decide
  exact this k hk hk2
theorem slot_lt {k : Nat} (hk : k < 28) : slot12 k < 251 := by
  unfold slot12; split <;> (try split) <;> omega
theorem NewMap.keep {K : TypeId} {k B : Nat} {L L' : Nat → Bool} {a a' : Act} {w w' : World} {row : Option Nat} (hf : NewMap K k B L a w) (ht : a'.eval (.tmp (slot12 k)) = a.eval (.tmp (slot12 k))) (hk18 : k ≠ 18)
    (h84 : ∀ j, j ∈ maps12 → ∀ b, b < w.heap.size → L' j = true → a'.eval (.tmp (slot12 j)) = .map (some b) → L j = true ∧ a.eval (.tmp (slot12 j)) = .map (some b)) (hg : w.grownBy w' row) (hrow : ∀ b, row = some b → L 18 = true ∧ a.eval (.tmp 84) = .map (some b)) : NewMap K k B L' a' w' := by
  obtain ⟨b, h1, h2, h3, h4⟩ := hf
  refine ⟨b, ht.trans h1, h2, h3.kept hg (fun e => ?_), fun j hj hjk hL e => ?_⟩
  · obtain ⟨k1, k2⟩ := hrow b e.symm
    exact h4 18 (by decide) (fun e => hk18 e.symm) k1 k2
  · obtain ⟨k1, k2⟩ := h84 j hj b h3.lt hL e
    exact h4 j hj hjk k1 k2
theorem grown_heap {w w' : World} {row : Option Nat} {b : Nat} {o : Obj} (hg : w.grownBy w' row) (h : w.heap[b]? = some o) (hr : ∀ c, row = some c → c ≠ b) : w'.heap[b]? = some o := (hg.block b (heap_lt h) (fun e => hr b e.symm rfl)).trans h
theorem own_grown {w w' : World} {row : Option Nat} {B : Nat} {e : TypeId} {v : Value} {n : Nat} {xs : List Value} (h : w.ownsRow B e 1 v n xs) (hg : w.grownBy w' row) (hr : ∀ c, row = some c → ∃ es k, w.heap[c]? = some (.map es k)) : w'.ownsRow B e 1 v n xs := by
  refine own_move h fun g h1 h2 => hg.block g h2 fun e => ?_
  obtain ⟨es, k, hm⟩ := hr g e.symm
  rcases h.2 with ⟨rfl, _⟩ | ⟨g', cap, cur, rfl, k1, k2, _⟩
  · simp [Value.ownBlock] at h1
  · simp only [Value.ownBlock, Option.some.injEq] at h1
    subst h1
    rw [hm] at k2
    cases k2
theorem Fact.keep {X : In12} {B : Nat} {L L' : Nat → Bool} {a a' : Act} {w w' : World} {row : Option Nat} {i : Nat} (hf : Fact X B L a w i) (hL : L i = true) (hi : i < 28) (dc : ∀ i, i < 28 → L i = true → depsB (ops12 Ybaz.f14) L i = true)
    (hs : ∀ j, j < 28 → j ≠ 22 → L j = true → a'.eval (.tmp (slot12 j)) = a.eval (.tmp (slot12 j))) (hm : ∀ j, L j = true → L' j = true)
    (h84 : ∀ j, j ∈ maps12 → ∀ b, b < w.heap.size → L' j = true → a'.eval (.tmp (slot12 j)) = .map (some b) → L j = true ∧ a.eval (.tmp (slot12 j)) = .map (some b)) (hg : w.grownBy w' row)
    (hrow : ∀ b, row = some b → L 18 = true ∧ a.eval (.tmp 84) = .map (some b) ∧ ∃ es c, w.heap[b]? = some (.map es c)) (h18 : i = 18 → row = none ∧ L' 22 = L 22) : Fact X B L' a' w' i := by
  have hrow2 : ∀ b, row = some b → L 18 = true ∧ a.eval (.tmp 84) = .map (some b) := fun b e => ⟨(hrow b e).1, (hrow b e).2.1⟩
  have hcell : ∀ c, row = some c → ∃ es k, w.heap[c]? = some (.map es k) := fun c e => (hrow c e).2.2
  have hcells : ∀ {b : Nat} {cs : Array Value} {T : TypeId}, w.heap[b]? = some (.cells cs T (0, 0)) → w'.heap[b]? = some (.cells cs T (0, 0)) := fun h => grown_heap hg h (fun c e e2 => by
    obtain ⟨es, k, hm⟩ := hcell c e
    rw [e2, h] at hm
    cases hm)
  match i, hi with
  | 0, _ => exact (hs 0 (by omega) (by omega) hL).trans hf
  | 1, _ => exact (hs 1 (by omega) (by omega) hL).trans hf
  | 2, _ => exact (hs 2 (by omega) (by omega) hL).trans hf
  | 3, _ => exact (hs 3 (by omega) (by omega) hL).trans hf
  | 4, _ =>
    obtain ⟨cb, h1, h2⟩ := hf
    exact ⟨cb, (hs 4 (by omega) (by omega) hL).trans h1, hcells h2⟩
  | 5, _ =>
    show w'.ownsRow B 9 1 (a'.eval (.tmp 71)) X.rs.length (X.rs.map encStr)
    rw [show a'.eval (.tmp 71) = a.eval (.tmp 71) from hs 5 (by omega) (by omega) hL]
    exact own_grown hf hg hcell
  | 6, _ => exact (hs 6 (by omega) (by omega) hL).trans hf
  | 7, _ => exact (hs 7 (by omega) (by omega) hL).trans hf
  | 8, _ => exact (hs 8 (by omega) (by omega) hL).trans hf
  | 9, _ => exact NewMap.keep hf (hs 9 (by omega) (by omega) hL) (by omega) h84 hg hrow2
  | 10, _ => exact (hs 10 (by omega) (by omega) hL).trans hf
  | 11, _ => exact (hs 11 (by omega) (by omega) hL).trans hf
  | 12, _ =>
    show w'.ownsRow B 3 1 (a'.eval (.tmp 78)) X.un _
    rw [show a'.eval (.tmp 78) = a.eval (.tmp 78) from hs 12 (by omega) (by omega) hL]
    exact own_grown hf hg hcell
  | 13, _ => exact NewMap.keep hf (hs 13 (by omega) (by omega) hL) (by omega) h84 hg hrow2
  | 14, _ => exact (hs 14 (by omega) (by omega) hL).trans hf
  | 15, _ => exact (hs 15 (by omega) (by omega) hL).trans hf
  | 16, _ =>
    show w'.ownsRow B 21 1 (a'.eval (.tmp 82)) X.un _
    rw [show a'.eval (.tmp 82) = a.eval (.tmp 82) from hs 16 (by omega) (by omega) hL]
    exact own_grown hf hg hcell
  | 17, _ =>
    obtain ⟨b, h⟩ := hf
    exact ⟨b, (hs 17 (by omega) (by omega) hL).trans h⟩
  | 18, _ =>
    obtain ⟨b, h1, h2, h3⟩ := hf
    obtain ⟨e1, e2⟩ := h18 rfl
    refine ⟨b, (hs 18 (by omega) (by omega) hL).trans h1, h2, ?_⟩
    rw [e2]
    exact h3.kept hg (by rw [e1]; simp)
  | 19, _ => exact (hs 19 (by omega) (by omega) hL).trans hf
  | 20, _ =>
    obtain ⟨b, h1, h2⟩ := hf
    exact ⟨b, (hs 20 (by omega) (by omega) hL).trans h1, hcells h2⟩
  | 21, _ => exact (hs 21 (by omega) (by omega) hL).trans hf
  | 22, _ => trivial
  | 23, _ =>
    have d := dc 23 (by omega) hL
    have e1 : a'.eval (.tmp 88) = a.eval (.tmp 88) := hs 23 (by omega) (by omega) hL
    have e2 : a'.eval (.tmp 84) = a.eval (.tmp 84) := hs 18 (by omega) (by omega) (dep_of d (by kernel_rfl))
    show a'.eval (.tmp 88) = a'.eval (.tmp 84)
    rw [e1, e2]; exact hf
  | 24, _ => exact NewMap.keep hf (hs 24 (by omega) (by omega) hL) (by omega) h84 hg hrow2
  | 25, _ =>
    have d := dc 25 (by omega) hL
    have l23 := dep_of (j := 23) d (by kernel_rfl)
    obtain ⟨l9, ix, rg, re, ro, ra, rc, ea, ec, sa, sc, nm, h1, h2, h3, h4, h5, h6, h7, h8, h9⟩ := hf
    exact ⟨hm 9 l9, ix, rg, re, ro, ra, rc, ea, ec, sa, sc, nm, (hs 9 (by omega) (by omega) l9).trans h1, (hs 13 (by omega) (by omega) (dep_of d (by kernel_rfl))).trans h2, (hs 18 (by omega) (by omega) (dep_of (dc 23 (by omega) l23) (by kernel_rfl))).trans h3, (hs 24 (by omega) (by omega) (dep_of d (by kernel_rfl))).trans h4, (hs 5 (by omega) (by omega) (dep_of d (by kernel_rfl))).trans h5, (hs 12 (by omega) (by omega) (dep_of d (by kernel_rfl))).trans h6, (hs 16 (by omega) (by omega) (dep_of d (by kernel_rfl))).trans h7, (hs 17 (by omega) (by omega) (dep_of d (by kernel_rfl))).trans h8, (hs 25 (by omega) (by omega) hL).trans h9⟩
  | 26, _ =>
    have d := dc 26 (by omega) hL
    obtain ⟨cb, h1, h2, cs, h3, h4⟩ := hf
    exact ⟨cb, (hs 26 (by omega) (by omega) hL).trans h1, h2, cs, (hs 25 (by omega) (by omega) (dep_of d (by kernel_rfl))).trans h3, hcells h4⟩
  | 27, _ =>
    have d := dc 27 (by omega) hL
    have e1 : a'.eval (.tmp 12) = a.eval (.tmp 12) := hs 27 (by omega) (by omega) hL
    have e2 : a'.eval (.tmp 91) = a.eval (.tmp 91) := hs 26 (by omega) (by omega) (dep_of d (by kernel_rfl))
    show a'.eval (.tmp 12) = a'.eval (.tmp 91)
    rw [e1, e2]; exact hf
  | n + 28, hi => omega
structure Inv12 (X : In12) (a0 : Act) (w0 : World) (L : Nat → Bool) (a : Act) (w : World) : Prop where
  defers : a.defers = a0.defers
  size : a.tmps.size = 251
  other : ∀ t, t ∉ S12 → a.tmps[t]? = a0.tmps[t]?
  below : Below w0.heap.size w0 w
  closed : ∀ i, i < 28 → L i = true → depsB (ops12 Ybaz.f14) L i = true
  facts : ∀ i, i < 28 → L i = true → Fact X w0.heap.size L a w i
theorem eval_same {a : Act} {d : Nat} (hd : d < a.tmps.size) (v : Value) : (a.put (some d) v).eval (.tmp d) = v := by
  simp [Act.eval, Act.put, Array.getD, hd]
theorem eval_other {a : Act} {d t : Nat} (v : Value) (h : t ≠ d) : (a.put (some d) v).eval (.tmp t) = a.eval (.tmp t) := Act.eval_put (fun x hx e => by injection hx with hx; injection e with e; exact h (e.trans hx.symm))
theorem Inv12.other_eval {X : In12} {a0 : Act} {w0 : World} {L : Nat → Bool} {a : Act} {w : World} (h : Inv12 X a0 w0 L a w) (t : Nat) (ht : t ∉ S12) : a.eval (.tmp t) = a0.eval (.tmp t) := by
  have := h.other t ht
  simp only [Act.eval, Array.getD_eq_getD_getElem?, this]
theorem Inv12.next {X : In12} {a0 : Act} {w0 : World} {L : Nat → Bool} {a : Act} {w : World} (h : Inv12 X a0 w0 L a w) {k : Nat} (hk : k < 28) (hk2 : k ≠ 22) (hLk : L k = false) (hdep : depsB (ops12 Ybaz.f14) L k = true) (v : Value) (w' : World) (hg : w.grownBy w' none)
    (hv : k ∈ maps12 → v = .map (some w.heap.size)) (hf : Fact X w0.heap.size (fun j => j == k || L j) (a.put (some (slot12 k)) v) w' k) : Inv12 X a0 w0 (fun j => j == k || L j) (a.put (some (slot12 k)) v) w' := by
  have hmono : ∀ j, L j = true → (j == k || L j) = true := fun j hj => by simp [hj]
  refine ⟨h.defers, by simpa [Act.put] using h.size, fun t ht => ?_, ?_, fun i hi hL => ?_, fun i hi hL => ?_⟩
  · have hne : slot12 k ≠ t := fun e => ht (e ▸ slot_mem hk hk2)
    simp only [Act.put, Array.getElem?_setIfInBounds_ne hne]
    exact h.other t ht
  · exact h.below.trans ⟨hg.os, hg.tape, hg.output, hg.size, fun j hj => hg.block j (Nat.lt_of_lt_of_le hj h.below.size) (by simp)⟩
  · by_cases e : i = k
    · subst e; exact depsB_mono hmono hdep
    · have : L i = true := by simpa [e] using hL
      exact depsB_mono hmono (h.closed i hi this)
  · by_cases e : i = k
    · subst e; exact hf
    · have hLi : L i = true := by simpa [e] using hL
      refine Fact.keep (L' := fun j => j == k || L j) (row := none) (h.facts i hi hLi) hLi hi h.closed (fun j hj hj2 hLj => eval_other v (fun e2 => ?_)) hmono (fun m hm b hb hL' e2 => ?_) hg (fun b e2 => by cases e2) (fun e2 => ⟨rfl, ?_⟩)
      · have := slot_inj hj hk hj2 hk2 e2
        subst this
        rw [hLk] at hLj; cases hLj
      · have hm28 : m < 28 ∧ m ≠ 22 := by
          have : ∀ m, m ∈ maps12 → m < 28 ∧ m ≠ 22 := by decide
          exact this m hm
        by_cases e3 : k = m
        · subst e3
          rw [eval_same (by rw [h.size]; exact slot_lt hk)] at e2
          rw [hv hm] at e2
          injection e2 with e2
          injection e2 with e2
          omega
        · have h18 : L m = true := by
            have : (m == k) = false := by simp; omega
            simpa [this] using hL'
          refine ⟨h18, ?_⟩
          rwa [eval_other v (fun e4 => e3 (slot_inj hm28.1 hk hm28.2 hk2 e4).symm)] at e2
      · have : ((22 : Nat) == k) = false := by simp; omega
        simp [this]
theorem grown_self (w : World) (row : Option Nat) : w.grownBy w row := ⟨rfl, rfl, rfl, Nat.le_refl _, fun _ _ _ => rfl⟩
theorem grown_below {w w' : World} (h : Below w.heap.size w w') : w.grownBy w' none := ⟨h.os, h.tape, h.output, h.size, fun i hi _ => h.block i hi⟩

/-- the state ahead of the region -/
structure Pre12 (X : In12) (a0 : Act) (w0 : World) : Prop where
  size : a0.tmps.size = 251
  e0 : a0.eval (.tmp 0) = .pointer X.p0
  e1 : a0.eval (.tmp 1) = .pointer X.p1
  e5 : a0.eval (.tmp 5) = .map (some X.sb)
  e11 : a0.eval (.tmp 11) = .slice X.ua X.un X.uc
  seg : ∃ T fr, w0.heap[0]? = some (.cells segCells T fr)
  un : X.un ≤ 1000000
  keys : ∀ (w : World) (cb : Nat), Below w0.heap.size w0 w → w.heap[cb]? = some (.cells #[.map (some X.sb)] 137 (0, 0)) → Calls Ybaz.prog 29 #[.func (.func 74) #[] #[.pointer (some ⟨cb, 0, none⟩)]] w fun e w' => ∃ v, e = .returned v ∧ w'.ownsRow w.heap.size 9 1 v X.rs.length (X.rs.map encStr) ∧ Below w.heap.size w w'
  keys30 : ∀ (w : World), Calls Ybaz.prog 30 #[.map (some X.sb)] w fun e w' => e = .returned (.func (.func 74) #[] #[.pointer (some ⟨w.heap.size, 0, none⟩)]) ∧ w' = w.alloc (.cells #[.map (some X.sb)] 137)
  pat : ∀ (w : World) (b : Nat), w.heap[b]? = some (.cells segCells 148 (0, 0)) → Calls Ybaz.prog 31 #[.slice (some ⟨b, 0, none⟩) 1 1] w fun e w' => e = .returned (.string ⟨#[47, 42, 42]⟩) ∧ Below w.heap.size w w'
section
variable {X : In12} {a0 : Act} {w0 : World} {L : Nat → Bool} {a : Act} {w : World} {Q : Exit → Act → World → Prop}
theorem st_move {k : Nat} {x : Operand} {v : Value} (hp : Pre12 X a0 w0) (h : Inv12 X a0 w0 L a w) (hk : k < 28) (hk2 : k ≠ 22) (h18 : k ∉ maps12) (hLk : L k = false) (hdep : depsB (ops12 Ybaz.f14) L k = true) (ho : isOp (ops12 Ybaz.f14) k (.move x) (some (slot12 k)) ∨ isOp (ops12 Ybaz.f14) k (.assign x) (some (slot12 k))) (hx : a.eval x = v)
    (hf : Fact X w0.heap.size (fun j => j == k || L j) (a.put (some (slot12 k)) v) w k) : wpOp Ybaz.prog (ops12 Ybaz.f14) Q k (Inv12 X a0 w0 (fun j => j == k || L j)) a w := by
  have hn := h.next hk hk2 hLk hdep v w (grown_self w none) (fun e => absurd e h18) hf
  rcases ho with ho | ho
  · refine wpOp_of ho fun o h1 h2 => ?_
    simpa [execOp, h1, hx, Oper.upon, h2] using hn
  · refine wpOp_of ho fun o h1 h2 => ?_
    simpa [execOp, h1, hx, Oper.upon, h2] using hn
theorem st_run {k : Nat} {op : Op} {v : Value} {w' : World} (hp : Pre12 X a0 w0) (h : Inv12 X a0 w0 L a w) (hk : k < 28) (hk2 : k ≠ 22) (hLk : L k = false) (hdep : depsB (ops12 Ybaz.f14) L k = true) (ho : isOp (ops12 Ybaz.f14) k op (some (slot12 k)))
    (hx : ∀ o : Oper, o.op = op → (execOp a.eval o).run Ybaz.prog w = .ok (.value v) w') (hg : w.grownBy w' none) (hv : k ∈ maps12 → v = .map (some w.heap.size)) (hf : Fact X w0.heap.size (fun j => j == k || L j) (a.put (some (slot12 k)) v) w' k) : wpOp Ybaz.prog (ops12 Ybaz.f14) Q k (Inv12 X a0 w0 (fun j => j == k || L j)) a w := by
  have hn := h.next hk hk2 hLk hdep v w' hg hv hf
  refine wpOp_of ho fun o h1 h2 => ?_
  rw [hx o h1]
  simpa [Oper.upon, h2] using hn
theorem st_call {k f : Nat} {args : Array Operand} {ts : Array TypeId} {R : Ending → World → Prop} (hp : Pre12 X a0 w0) (h : Inv12 X a0 w0 L a w) (hk : k < 28) (hk2 : k ≠ 22) (h18 : k ∉ maps12) (hLk : L k = false) (hdep : depsB (ops12 Ybaz.f14) L k = true) (ho : isOp (ops12 Ybaz.f14) k (.call { callee := .value (.func f), args := args, argTypes := ts }) (some (slot12 k)))
    (hent : ∀ (vs : Array Value) (w : World), (callFunc f vs).run Ybaz.prog w = .ok (.enter f vs) w) (hc : Calls Ybaz.prog f (args.map a.eval) w R)
    (hR : ∀ e w', R e w' → ∃ v, e = .returned v ∧ w.grownBy w' none ∧ Fact X w0.heap.size (fun j => j == k || L j) (a.put (some (slot12 k)) v) w' k) : wpOp Ybaz.prog (ops12 Ybaz.f14) Q k (Inv12 X a0 w0 (fun j => j == k || L j)) a w := by
  refine wpOp_of ho fun o h1 h2 => ?_
  have : (execOp a.eval o).run Ybaz.prog w = .ok (.enter f (args.map a.eval)) w := by
    simp [execOp, h1, resolve, invoke, Act.eval, hent, Deferred.ofValue]
  rw [this]
  simp only [Oper.upon]
  refine hc.mono ?_
  intro e w' hr
  obtain ⟨v, rfl, hg, hf⟩ := hR e w' hr
  have hn := h.next hk hk2 hLk hdep v w' hg (fun e => absurd e h18) hf
  simpa [h2] using hn
theorem row_made {w' : World} {B e n : Nat} {v : Value} {xs : List Value} {w0 : World} (h : w'.ownsRow w0.heap.size e 1 v n xs) (hB : B ≤ w0.heap.size) : w'.ownsRow B e 1 v n xs := own_base h hB
theorem st0 (hp : Pre12 X a0 w0) (h : Inv12 X a0 w0 L a w) (hL : L 0 = false) (hd : depsB (ops12 Ybaz.f14) L 0 = true) : wpOp Ybaz.prog (ops12 Ybaz.f14) Q 0 (Inv12 X a0 w0 (fun j => j == 0 || L j)) a w := by
  exact st_move hp h (by omega) (by omega) (by decide) hL hd (.inl o0) ((h.other_eval 0 (by decide)).trans hp.e0) (eval_same (by rw [h.size]; decide) _)
theorem st1 (hp : Pre12 X a0 w0) (h : Inv12 X a0 w0 L a w) (hL : L 1 = false) (hd : depsB (ops12 Ybaz.f14) L 1 = true) : wpOp Ybaz.prog (ops12 Ybaz.f14) Q 1 (Inv12 X a0 w0 (fun j => j == 1 || L j)) a w := by
  exact st_move hp h (by omega) (by omega) (by decide) hL hd (.inl o1) ((h.other_eval 1 (by decide)).trans hp.e1) (eval_same (by rw [h.size]; decide) _)
theorem st3 (hp : Pre12 X a0 w0) (h : Inv12 X a0 w0 L a w) (hL : L 3 = false) (hd : depsB (ops12 Ybaz.f14) L 3 = true) : wpOp Ybaz.prog (ops12 Ybaz.f14) Q 3 (Inv12 X a0 w0 (fun j => j == 3 || L j)) a w := by
  exact st_move hp h (by omega) (by omega) (by decide) hL hd (.inl o3) ((h.other_eval 5 (by decide)).trans hp.e5) (eval_same (by rw [h.size]; decide) _)
theorem st6 (hp : Pre12 X a0 w0) (h : Inv12 X a0 w0 L a w) (hL : L 6 = false) (hd : depsB (ops12 Ybaz.f14) L 6 = true) : wpOp Ybaz.prog (ops12 Ybaz.f14) Q 6 (Inv12 X a0 w0 (fun j => j == 6 || L j)) a w := by
  exact st_move hp h (by omega) (by omega) (by decide) hL hd (.inl o6) ((h.other_eval 11 (by decide)).trans hp.e11) (eval_same (by rw [h.size]; decide) _)
theorem st7 (hp : Pre12 X a0 w0) (h : Inv12 X a0 w0 L a w) (hL : L 7 = false) (hd : depsB (ops12 Ybaz.f14) L 7 = true) : wpOp Ybaz.prog (ops12 Ybaz.f14) Q 7 (Inv12 X a0 w0 (fun j => j == 7 || L j)) a w := by
  exact st_move hp h (by omega) (by omega) (by decide) hL hd (.inl o7) ((h.other_eval 11 (by decide)).trans hp.e11) (eval_same (by rw [h.size]; decide) _)
theorem st10 (hp : Pre12 X a0 w0) (h : Inv12 X a0 w0 L a w) (hL : L 10 = false) (hd : depsB (ops12 Ybaz.f14) L 10 = true) : wpOp Ybaz.prog (ops12 Ybaz.f14) Q 10 (Inv12 X a0 w0 (fun j => j == 10 || L j)) a w := by
  exact st_move hp h (by omega) (by omega) (by decide) hL hd (.inl o10) ((h.other_eval 11 (by decide)).trans hp.e11) (eval_same (by rw [h.size]; decide) _)
theorem st14 (hp : Pre12 X a0 w0) (h : Inv12 X a0 w0 L a w) (hL : L 14 = false) (hd : depsB (ops12 Ybaz.f14) L 14 = true) : wpOp Ybaz.prog (ops12 Ybaz.f14) Q 14 (Inv12 X a0 w0 (fun j => j == 14 || L j)) a w := by
  exact st_move hp h (by omega) (by omega) (by decide) hL hd (.inl o14) ((h.other_eval 11 (by decide)).trans hp.e11) (eval_same (by rw [h.size]; decide) _)
theorem st2 (hp : Pre12 X a0 w0) (h : Inv12 X a0 w0 L a w) (hL : L 2 = false) (hd : depsB (ops12 Ybaz.f14) L 2 = true) : wpOp Ybaz.prog (ops12 Ybaz.f14) Q 2 (Inv12 X a0 w0 (fun j => j == 2 || L j)) a w := by
  have f0 : a.eval (.tmp 66) = .pointer X.p0 := h.facts 0 (by omega) (dep_of hd (by kernel_rfl))
  have f1 : a.eval (.tmp 67) = .pointer X.p1 := h.facts 1 (by omega) (dep_of hd (by kernel_rfl))
  refine st_run (v := .agg #[.pointer X.p0, .pointer X.p1]) hp h (by omega) (by omega) hL hd o2 (fun o h1 => ?_) (grown_self w none) (fun e => absurd e (by decide)) (eval_same (by rw [h.size]; decide) _)
  have hr : (Instr.build 64 #[(0, .pointer X.p0), (1, .pointer X.p1)]).run Ybaz.prog w = .ok (.agg #[.pointer X.p0, .pointer X.p1]) w := by go_simp
  simp [execOp, h1, f0, f1, hr, Result.andThen]
theorem st8 (hp : Pre12 X a0 w0) (h : Inv12 X a0 w0 L a w) (hL : L 8 = false) (hd : depsB (ops12 Ybaz.f14) L 8 = true) : wpOp Ybaz.prog (ops12 Ybaz.f14) Q 8 (Inv12 X a0 w0 (fun j => j == 8 || L j)) a w := by
  have f : a.eval (.tmp 73) = .slice X.ua X.un X.uc := h.facts 7 (by omega) (dep_of hd (by kernel_rfl))
  refine st_run (v := .int .i64 X.un) hp h (by omega) (by omega) hL hd o8 (fun o h1 => ?_) (grown_self w none) (fun e => absurd e (by decide)) (eval_same (by rw [h.size]; decide) _)
  have hr : (Builtin.len_ #[22] o.type #[.slice X.ua X.un X.uc]).run Ybaz.prog w = .ok (.int .i64 X.un) w := by go_simp
  simp [execOp, h1, resolve, invoke, builtin, f, hr, Result.andThen]
theorem st11 (hp : Pre12 X a0 w0) (h : Inv12 X a0 w0 L a w) (hL : L 11 = false) (hd : depsB (ops12 Ybaz.f14) L 11 = true) : wpOp Ybaz.prog (ops12 Ybaz.f14) Q 11 (Inv12 X a0 w0 (fun j => j == 11 || L j)) a w := by
  have f : a.eval (.tmp 76) = .slice X.ua X.un X.uc := h.facts 10 (by omega) (dep_of hd (by kernel_rfl))
  refine st_run (v := .int .i64 X.un) hp h (by omega) (by omega) hL hd o11 (fun o h1 => ?_) (grown_self w none) (fun e => absurd e (by decide)) (eval_same (by rw [h.size]; decide) _)
  have hr : (Builtin.len_ #[22] o.type #[.slice X.ua X.un X.uc]).run Ybaz.prog w = .ok (.int .i64 X.un) w := by go_simp
  simp [execOp, h1, resolve, invoke, builtin, f, hr, Result.andThen]
theorem st15 (hp : Pre12 X a0 w0) (h : Inv12 X a0 w0 L a w) (hL : L 15 = false) (hd : depsB (ops12 Ybaz.f14) L 15 = true) : wpOp Ybaz.prog (ops12 Ybaz.f14) Q 15 (Inv12 X a0 w0 (fun j => j == 15 || L j)) a w := by
  have f : a.eval (.tmp 80) = .slice X.ua X.un X.uc := h.facts 14 (by omega) (dep_of hd (by kernel_rfl))
  refine st_run (v := .int .i64 X.un) hp h (by omega) (by omega) hL hd o15 (fun o h1 => ?_) (grown_self w none) (fun e => absurd e (by decide)) (eval_same (by rw [h.size]; decide) _)
  have hr : (Builtin.len_ #[22] o.type #[.slice X.ua X.un X.uc]).run Ybaz.prog w = .ok (.int .i64 X.un) w := by go_simp
  simp [execOp, h1, resolve, invoke, builtin, f, hr, Result.andThen]
theorem newMap_lt (h : Inv12 X a0 w0 L a w) {j b : Nat} (hj : j ∈ maps12) (hL : L j = true) (e : a.eval (.tmp (slot12 j)) = .map (some b)) : b < w.heap.size := by
  have hc : j = 9 ∨ j = 13 ∨ j = 18 ∨ j = 24 := by simpa [maps12] using hj
  rcases hc with rfl | rfl | rfl | rfl
  · obtain ⟨b', h1, _, h3, _⟩ : NewMap 9 9 w0.heap.size L a w := h.facts 9 (by omega) hL
    rw [h1] at e; injection e with e; injection e with e; rw [← e]; exact h3.lt
  · obtain ⟨b', h1, _, h3, _⟩ : NewMap 9 13 w0.heap.size L a w := h.facts 13 (by omega) hL
    rw [h1] at e; injection e with e; injection e with e; rw [← e]; exact h3.lt
  · obtain ⟨b', h1, h2, h3⟩ : ∃ b, a.eval (.tmp 84) = .map (some b) ∧ w0.heap.size ≤ b ∧ w.ownsMap Ybaz.prog 9 Rh b (if L 22 then 1 else 0) (if L 22 then restD else .map []) := h.facts 18 (by omega) hL
    rw [show a.eval (.tmp (slot12 18)) = a.eval (.tmp 84) from rfl, h1] at e; injection e with e; injection e with e; rw [← e]; exact h3.lt
  · obtain ⟨b', h1, _, h3, _⟩ : NewMap 319 24 w0.heap.size L a w := h.facts 24 (by omega) hL
    rw [h1] at e; injection e with e; injection e with e; rw [← e]; exact h3.lt
theorem newMap_of (hp : Pre12 X a0 w0) (h : Inv12 X a0 w0 L a w) {K k : Nat} (hk : k < 28) (hk2 : k ≠ 22) : NewMap K k w0.heap.size (fun j => j == k || L j) (a.put (some (slot12 k)) (.map (some w.heap.size))) (w.alloc (.map #[] 0)) := by
  refine ⟨w.heap.size, eval_same (by rw [h.size]; exact slot_lt hk) _, h.below.size, World.ownsMap_made _ _ _ _, fun j hj hjk hL e => ?_⟩
  have hLj : L j = true := by simpa [hjk] using hL
  have hj28 : j < 28 ∧ j ≠ 22 := by
    have : ∀ m, m ∈ maps12 → m < 28 ∧ m ≠ 22 := by decide
    exact this j hj
  rw [eval_other _ (fun e4 => hjk (slot_inj hj28.1 hk hj28.2 hk2 e4))] at e
  have := newMap_lt h hj hLj e
  omega
theorem st9 (hp : Pre12 X a0 w0) (h : Inv12 X a0 w0 L a w) (hL : L 9 = false) (hd : depsB (ops12 Ybaz.f14) L 9 = true) : wpOp Ybaz.prog (ops12 Ybaz.f14) Q 9 (Inv12 X a0 w0 (fun j => j == 9 || L j)) a w := by
  have f : a.eval (.tmp 74) = .int .i64 X.un := h.facts 8 (by omega) (dep_of hd (by kernel_rfl))
  refine st_run (v := .map (some w.heap.size)) (w' := w.alloc (.map #[] 0)) hp h (by omega) (by omega) hL hd o9 (fun o h1 => ?_) (World.grownBy_alloc w _ none) (fun e => rfl) (newMap_of hp h (by omega) (by omega))
  have hr : (Instr.makeMap 67 (some (.int .i64 X.un))).run Ybaz.prog w = .ok (.map (some w.heap.size)) (w.alloc (.map #[] 0)) := by
    unfold Instr.makeMap
    go_simp
  simp [execOp, h1, f, hr, Result.andThen]
theorem st13 (hp : Pre12 X a0 w0) (h : Inv12 X a0 w0 L a w) (hL : L 13 = false) (hd : depsB (ops12 Ybaz.f14) L 13 = true) : wpOp Ybaz.prog (ops12 Ybaz.f14) Q 13 (Inv12 X a0 w0 (fun j => j == 13 || L j)) a w := by
  refine st_run (v := .map (some w.heap.size)) (w' := w.alloc (.map #[] 0)) hp h (by omega) (by omega) hL hd o13 (fun o h1 => ?_) (World.grownBy_alloc w _ none) (fun e => rfl) (newMap_of hp h (by omega) (by omega))
  have hr := run_makeMap (P := Ybaz.prog) 76 w
  simp [execOp, h1, hr, Result.andThen]
theorem st24 (hp : Pre12 X a0 w0) (h : Inv12 X a0 w0 L a w) (hL : L 24 = false) (hd : depsB (ops12 Ybaz.f14) L 24 = true) : wpOp Ybaz.prog (ops12 Ybaz.f14) Q 24 (Inv12 X a0 w0 (fun j => j == 24 || L j)) a w := by
  refine st_run (v := .map (some w.heap.size)) (w' := w.alloc (.map #[] 0)) hp h (by omega) (by omega) hL hd o24 (fun o h1 => ?_) (World.grownBy_alloc w _ none) (fun e => rfl) (newMap_of hp h (by omega) (by omega))
  have hr := run_makeMap (P := Ybaz.prog) 38 w
  simp [execOp, h1, hr, Result.andThen]
theorem st18 (hp : Pre12 X a0 w0) (h : Inv12 X a0 w0 L a w) (hL : L 18 = false) (hd : depsB (ops12 Ybaz.f14) L 18 = true) : wpOp Ybaz.prog (ops12 Ybaz.f14) Q 18 (Inv12 X a0 w0 (fun j => j == 18 || L j)) a w := by
  have h22 : L 22 = false := by
    cases hc : L 22 with
    | false => rfl
    | true =>
      have := dep_of (j := 18) (h.closed 22 (by omega) hc) (by kernel_rfl)
      rw [hL] at this; cases this
  refine st_run (v := .map (some w.heap.size)) (w' := w.alloc (.map #[] 0)) hp h (by omega) (by omega) hL hd o18 (fun o h1 => ?_) (World.grownBy_alloc w _ none) (fun e => rfl) ⟨w.heap.size, eval_same (by rw [h.size]; decide) _, h.below.size, ?_⟩
  · have hr := run_makeMap (P := Ybaz.prog) 78 w
    simp [execOp, h1, hr, Result.andThen]
  · have : ((22 : Nat) == 18 || L 22) = false := by simp [h22]
    show World.ownsMap _ _ _ _ _ (if ((22 : Nat) == 18 || L 22) = true then 1 else 0) (if ((22 : Nat) == 18 || L 22) = true then restD else .map [])
    rw [this]
    exact World.ownsMap_made _ _ _ _
theorem st12 (hp : Pre12 X a0 w0) (h : Inv12 X a0 w0 L a w) (hL : L 12 = false) (hd : depsB (ops12 Ybaz.f14) L 12 = true) : wpOp Ybaz.prog (ops12 Ybaz.f14) Q 12 (Inv12 X a0 w0 (fun j => j == 12 || L j)) a w := by
  have f : a.eval (.tmp 77) = .int .i64 X.un := h.facts 11 (by omega) (dep_of hd (by kernel_rfl))
  obtain ⟨i0, hi, hz0, hz1, hz2⟩ := info_parts info3
  obtain ⟨w', hrun, r1, r2⟩ := run_make_full (P := Ybaz.prog) w w.heap.size 23 3 i0 (.int .i64 0) 1 Ybaz.underlying23 hi hz0 hz1 .i64 .i64 X.un (by rw [hz2]; have := hp.un; omega) (by have := hp.un; unfold maxLen; omega) (Nat.le_refl _)
  refine st_run (v := .slice (some ⟨w.heap.size, 0, none⟩) X.un X.un) (w' := w') hp h (by omega) (by omega) hL hd o12 (fun o h1 => ?_) r2 (fun e => absurd e (by decide)) ?_
  · simp [execOp, h1, f, hrun, Result.andThen]
  · show w'.ownsRow w0.heap.size 3 1 ((a.put (some (slot12 12)) _).eval (.tmp (slot12 12))) X.un _
    rw [eval_same (by rw [h.size]; decide)]
    have := own_base r1 h.below.size
    simpa [Value.cells] using this
theorem st16 (hp : Pre12 X a0 w0) (h : Inv12 X a0 w0 L a w) (hL : L 16 = false) (hd : depsB (ops12 Ybaz.f14) L 16 = true) : wpOp Ybaz.prog (ops12 Ybaz.f14) Q 16 (Inv12 X a0 w0 (fun j => j == 16 || L j)) a w := by
  have f : a.eval (.tmp 81) = .int .i64 X.un := h.facts 15 (by omega) (dep_of hd (by kernel_rfl))
  obtain ⟨i0, hi, hz0, hz1, hz2⟩ := info_parts info21
  obtain ⟨w', hrun, r1, r2⟩ := run_make_full (P := Ybaz.prog) w w.heap.size 77 21 i0 (.int .i32 0) 1 Ybaz.underlying77 hi hz0 hz1 .i64 .i64 X.un (by rw [hz2]; have := hp.un; omega) (by have := hp.un; unfold maxLen; omega) (Nat.le_refl _)
  refine st_run (v := .slice (some ⟨w.heap.size, 0, none⟩) X.un X.un) (w' := w') hp h (by omega) (by omega) hL hd o16 (fun o h1 => ?_) r2 (fun e => absurd e (by decide)) ?_
  · simp [execOp, h1, f, hrun, Result.andThen]
  · show w'.ownsRow w0.heap.size 21 1 ((a.put (some (slot12 16)) _).eval (.tmp (slot12 16))) X.un _
    rw [eval_same (by rw [h.size]; decide)]
    have := own_base r1 h.below.size
    simpa [Value.cells] using this
theorem st4 (hp : Pre12 X a0 w0) (h : Inv12 X a0 w0 L a w) (hL : L 4 = false) (hd : depsB (ops12 Ybaz.f14) L 4 = true) : wpOp Ybaz.prog (ops12 Ybaz.f14) Q 4 (Inv12 X a0 w0 (fun j => j == 4 || L j)) a w := by
  have f : a.eval (.tmp 69) = .map (some X.sb) := h.facts 3 (by omega) (dep_of hd (by kernel_rfl))
  refine st_call (R := fun e w' => e = .returned (.func (.func 74) #[] #[.pointer (some ⟨w.heap.size, 0, none⟩)]) ∧ w' = w.alloc (.cells #[.map (some X.sb)] 137)) hp h (by omega) (by omega) (by decide) hL hd o4 (enters_of Ybaz.func30 (by kernel_rfl) rfl) (by simpa [f] using hp.keys30 w) ?_
  rintro e w' ⟨rfl, rfl⟩
  exact ⟨_, rfl, World.grownBy_alloc w _ none, _, eval_same (by rw [h.size]; decide) _, heap_alloc_new w _⟩
theorem st5 (hp : Pre12 X a0 w0) (h : Inv12 X a0 w0 L a w) (hL : L 5 = false) (hd : depsB (ops12 Ybaz.f14) L 5 = true) : wpOp Ybaz.prog (ops12 Ybaz.f14) Q 5 (Inv12 X a0 w0 (fun j => j == 5 || L j)) a w := by
  obtain ⟨cb, f, hc⟩ : ∃ cb, a.eval (.tmp 70) = .func (.func 74) #[] #[.pointer (some ⟨cb, 0, none⟩)] ∧ w.heap[cb]? = some (.cells #[.map (some X.sb)] 137 (0, 0)) := h.facts 4 (by omega) (dep_of hd (by kernel_rfl))
  refine st_call (R := fun e w' => ∃ v, e = .returned v ∧ w'.ownsRow w.heap.size 9 1 v X.rs.length (X.rs.map encStr) ∧ Below w.heap.size w w') hp h (by omega) (by omega) (by decide) hL hd o5 (enters_of Ybaz.func29 (by kernel_rfl) rfl) (by simpa [f] using hp.keys w cb h.below hc) ?_
  rintro e w' ⟨v, rfl, ho, hb⟩
  refine ⟨v, rfl, grown_below hb, ?_⟩
  show w'.ownsRow w0.heap.size 9 1 ((a.put (some (slot12 5)) _).eval (.tmp (slot12 5))) X.rs.length _
  rw [eval_same (by rw [h.size]; decide)]
  exact own_base ho h.below.size
theorem st17 (hp : Pre12 X a0 w0) (h : Inv12 X a0 w0 L a w) (hL : L 17 = false) (hd : depsB (ops12 Ybaz.f14) L 17 = true) : wpOp Ybaz.prog (ops12 Ybaz.f14) Q 17 (Inv12 X a0 w0 (fun j => j == 17 || L j)) a w := by
  refine st_call (R := fun e w' => (∃ b, e = .returned (.pointer (some ⟨b, 0, none⟩))) ∧ Below w.heap.size w w') hp h (by omega) (by omega) (by decide) hL hd o17 (enters_of Ybaz.func8 (by kernel_rfl) rfl) (by simpa using newNameCache8 w) ?_
  rintro e w' ⟨⟨b, rfl⟩, hb⟩
  exact ⟨_, rfl, grown_below hb, b, eval_same (by rw [h.size]; decide) _⟩
theorem st19 (hp : Pre12 X a0 w0) (h : Inv12 X a0 w0 L a w) (hL : L 19 = false) (hd : depsB (ops12 Ybaz.f14) L 19 = true) : wpOp Ybaz.prog (ops12 Ybaz.f14) Q 19 (Inv12 X a0 w0 (fun j => j == 19 || L j)) a w := by
  obtain ⟨T0, fr0, hs0⟩ := hp.seg
  have hs : w.heap[0]? = some (.cells segCells T0 fr0) := (h.below.block 0 (heap_lt hs0)).trans hs0
  have c0 : w.cell? ⟨0, 0, none⟩ = some (.int .u8 2) := by rw [cell_of hs]; rfl
  have c1 : w.cell? ⟨0, 1, none⟩ = some (.int .u8 0) := by rw [cell_of hs]; rfl
  have c2 : w.cell? ⟨0, 2, none⟩ = some (.string ⟨#[42, 42]⟩) := by rw [cell_of hs]; rfl
  have c3 : w.cell? ⟨0, 3, none⟩ = some (.string ⟨#[]⟩) := by rw [cell_of hs]; rfl
  have c4 : w.cell? ⟨0, 4, none⟩ = some (.string ⟨#[]⟩) := by rw [cell_of hs]; rfl
  have c5 : w.cell? ⟨0, 5, none⟩ = some (.bool false) := by rw [cell_of hs]; rfl
  have c6 : w.cell? ⟨0, 6, none⟩ = some (.bool false) := by rw [cell_of hs]; rfl
  refine st_run (v := segVal) (w' := w) hp h (by omega) (by omega) hL hd o19 (fun o h1 => ?_) (grown_self w none) (fun e => absurd e (by decide)) (eval_same (by rw [h.size]; decide) _)
  have hr : (Instr.loadAt 148 (.pointer (some ⟨0, 0, none⟩))).run Ybaz.prog w = .ok segVal w := by
    unfold segVal segCells
    go_simp
  have e0 : a.eval (.global 0) = .pointer (some ⟨0, 0, none⟩) := rfl
  simp [execOp, h1, e0, hr, Result.andThen]
theorem st20 (hp : Pre12 X a0 w0) (h : Inv12 X a0 w0 L a w) (hL : L 20 = false) (hd : depsB (ops12 Ybaz.f14) L 20 = true) : wpOp Ybaz.prog (ops12 Ybaz.f14) Q 20 (Inv12 X a0 w0 (fun j => j == 20 || L j)) a w := by
  have f : a.eval (.tmp 85) = segVal := h.facts 19 (by omega) (dep_of hd (by kernel_rfl))
  refine st_run (v := .slice (some ⟨w.heap.size, 0, none⟩) 1 1) (w' := w.alloc (.cells segCells 148)) hp h (by omega) (by omega) hL hd o20 (fun o h1 => ?_) (World.grownBy_alloc w _ none) (fun e => absurd e (by decide)) ⟨_, eval_same (by rw [h.size]; decide) _, heap_alloc_new w _⟩
  have hr : (Instr.buildSlice 128 1 #[(0, segVal)]).run Ybaz.prog w = .ok (.slice (some ⟨w.heap.size, 0, none⟩) 1 1) (w.alloc (.cells segCells 148)) := by
    unfold segVal segCells
    go_simp
  simp [execOp, h1, f, hr, Result.andThen]
theorem st21 (hp : Pre12 X a0 w0) (h : Inv12 X a0 w0 L a w) (hL : L 21 = false) (hd : depsB (ops12 Ybaz.f14) L 21 = true) : wpOp Ybaz.prog (ops12 Ybaz.f14) Q 21 (Inv12 X a0 w0 (fun j => j == 21 || L j)) a w := by
  obtain ⟨b, f, hb⟩ : ∃ b, a.eval (.tmp 86) = .slice (some ⟨b, 0, none⟩) 1 1 ∧ w.heap[b]? = some (.cells segCells 148 (0, 0)) := h.facts 20 (by omega) (dep_of hd (by kernel_rfl))
  refine st_call (R := fun e w' => e = .returned (.string ⟨#[47, 42, 42]⟩) ∧ Below w.heap.size w w') hp h (by omega) (by omega) (by decide) hL hd o21 (enters_of Ybaz.func31 (by kernel_rfl) rfl) (by simpa [f] using hp.pat w b hb) ?_
  rintro e w' ⟨rfl, hb⟩
  exact ⟨_, rfl, grown_below hb, eval_same (by rw [h.size]; decide) _⟩
theorem st22 (hp : Pre12 X a0 w0) (h : Inv12 X a0 w0 L a w) (hL : L 22 = false) (hd : depsB (ops12 Ybaz.f14) L 22 = true) : wpOp Ybaz.prog (ops12 Ybaz.f14) Q 22 (Inv12 X a0 w0 (fun j => j == 22 || L j)) a w := by
  obtain ⟨b, f, hB, ho⟩ : ∃ b, a.eval (.tmp 84) = .map (some b) ∧ w0.heap.size ≤ b ∧ w.ownsMap Ybaz.prog 9 Rh b (if L 22 then 1 else 0) (if L 22 then restD else .map []) := h.facts 18 (by omega) (dep_of hd (by kernel_rfl))
  have f21 : a.eval (.tmp 87) = .string ⟨#[47, 42, 42]⟩ := h.facts 21 (by omega) (dep_of hd (by kernel_rfl))
  have l18 : L 18 = true := dep_of hd (by kernel_rfl)
  rw [hL] at ho
  have ho0 : w.ownsMap Ybaz.prog 9 Rh b 0 (.map []) := by simpa using ho
  obtain ⟨w', hrun, r1, r2⟩ := ho0.update law9' Ybaz.underlying78 (by decide) (key9' ⟨#[47, 42, 42]⟩ (by decide)) (val := .int .i32 0) (d := .held (.int .i32 0)) (ps := []) rfl
  have hmono : ∀ j, L j = true → (j == 22 || L j) = true := fun j hj => by simp [hj]
  have hL22 : ∀ m, m ∈ maps12 → (m == 22 || L m) = true → L m = true := fun m hm hLm => by
    have h22 : ∀ m, m ∈ maps12 → m ≠ 22 := by decide
    simpa [h22 m hm] using hLm
  have hinv : Inv12 X a0 w0 (fun j => j == 22 || L j) a w' := by
    refine ⟨h.defers, h.size, h.other, h.below.trans ⟨r2.os, r2.tape, r2.output, r2.size, fun j hj => r2.block j (Nat.lt_of_lt_of_le hj h.below.size) (by simp; omega)⟩, fun i hi hL' => ?_, fun i hi hL' => ?_⟩
    · by_cases e : i = 22
      · subst e; exact depsB_mono hmono hd
      · exact depsB_mono hmono (h.closed i hi (by simpa [e] using hL'))
    · by_cases e : i = 22
      · subst e; trivial
      · have hLi : L i = true := by simpa [e] using hL'
        by_cases e18 : i = 18
        · subst e18
          refine ⟨b, f, hB, ?_⟩
          simp only [beq_self_eq_true, Bool.true_or, if_true]
          exact r1
        · obtain ⟨es, c, hb, _⟩ := ho
          exact Fact.keep (row := some b) (h.facts i hi hLi) hLi hi h.closed (fun _ _ _ _ => rfl) hmono (fun m hm b' hb' hLm e2 => ⟨hL22 m hm hLm, e2⟩) r2 (fun b' e2 => by injection e2 with e2; subst e2; exact ⟨l18, f, es, c, hb⟩) (fun e2 => absurd e2 e18)
  refine wpOp_of o22 fun o h1 h2 => ?_
  have e0 : a.eval (.const (.int .i32 0)) = .int .i32 0 := rfl
  have : (execOp a.eval o).run Ybaz.prog w = .ok .skip w' := by simp [execOp, h1, f, f21, e0, hrun, Result.andThen]
  rw [this]
  simpa [Oper.upon, h2, Act.put] using hinv
theorem st23 (hp : Pre12 X a0 w0) (h : Inv12 X a0 w0 L a w) (hL : L 23 = false) (hd : depsB (ops12 Ybaz.f14) L 23 = true) : wpOp Ybaz.prog (ops12 Ybaz.f14) Q 23 (Inv12 X a0 w0 (fun j => j == 23 || L j)) a w := by
  refine st_move hp h (by omega) (by omega) (by decide) hL hd (.inl o23) rfl ?_
  show (a.put (some (slot12 23)) _).eval (.tmp (slot12 23)) = (a.put (some (slot12 23)) _).eval (.tmp 84)
  rw [eval_same (by rw [h.size]; decide), eval_other _ (by decide)]
theorem st25 (hp : Pre12 X a0 w0) (h : Inv12 X a0 w0 L a w) (hL : L 25 = false) (hd : depsB (ops12 Ybaz.f14) L 25 = true) : wpOp Ybaz.prog (ops12 Ybaz.f14) Q 25 (Inv12 X a0 w0 (fun j => j == 25 || L j)) a w := by
  have f2 : a.eval (.tmp 68) = .agg #[.pointer X.p0, .pointer X.p1] := h.facts 2 (by omega) (dep_of hd (by kernel_rfl))
  have f5 : w.ownsRow w0.heap.size 9 1 (a.eval (.tmp 71)) X.rs.length (X.rs.map encStr) := h.facts 5 (by omega) (dep_of hd (by kernel_rfl))
  obtain ⟨ra, rc, f5⟩ := own_slice' f5
  have f6 : a.eval (.tmp 72) = .slice X.ua X.un X.uc := h.facts 6 (by omega) (dep_of hd (by kernel_rfl))
  obtain ⟨ix, f9, _, _, _⟩ : NewMap 9 9 w0.heap.size L a w := h.facts 9 (by omega) (dep_of hd (by kernel_rfl))
  have f9 : a.eval (.tmp 75) = .map (some ix) := f9
  have f12 : w.ownsRow w0.heap.size 3 1 (a.eval (.tmp 78)) X.un _ := h.facts 12 (by omega) (dep_of hd (by kernel_rfl))
  obtain ⟨ea, ec, f12⟩ := own_slice' f12
  obtain ⟨rg, f13, _, _, _⟩ : NewMap 9 13 w0.heap.size L a w := h.facts 13 (by omega) (dep_of hd (by kernel_rfl))
  have f13 : a.eval (.tmp 79) = .map (some rg) := f13
  have f16 : w.ownsRow w0.heap.size 21 1 (a.eval (.tmp 82)) X.un _ := h.facts 16 (by omega) (dep_of hd (by kernel_rfl))
  obtain ⟨sa, sc, f16⟩ := own_slice' f16
  obtain ⟨nm, f17⟩ : ∃ b, a.eval (.tmp 83) = .pointer (some ⟨b, 0, none⟩) := h.facts 17 (by omega) (dep_of hd (by kernel_rfl))
  have l23 : L 23 = true := dep_of hd (by kernel_rfl)
  obtain ⟨re, f18, _, _⟩ : ∃ b, a.eval (.tmp 84) = .map (some b) ∧ w0.heap.size ≤ b ∧ w.ownsMap Ybaz.prog 9 Rh b (if L 22 then 1 else 0) (if L 22 then restD else .map []) := h.facts 18 (by omega) (dep_of (h.closed 23 (by omega) l23) (by kernel_rfl))
  have f23 : a.eval (.tmp 88) = a.eval (.tmp 84) := h.facts 23 (by omega) l23
  rw [f18] at f23
  obtain ⟨ro, f24, _, _, _⟩ : NewMap 319 24 w0.heap.size L a w := h.facts 24 (by omega) (dep_of hd (by kernel_rfl))
  have f24 : a.eval (.tmp 89) = .map (some ro) := f24
  have l9 : L 9 = true := dep_of hd (by kernel_rfl)
  refine st_run (v := .agg (compCells X.p0 X.p1 (.slice ra X.rs.length rc) (.slice X.ua X.un X.uc) ix nilS nilS nilS nilS (.slice ea X.un ec) nilS (.bool false) nilS nilS rg (.slice sa X.un sc) (some ⟨nm, 0, none⟩) re ro)) (w' := w) hp h (by omega) (by omega) hL hd o25 (fun o h1 => ?_) (grown_self w none) (fun e => absurd e (by decide)) ?_
  · have hr : (Instr.build 80 #[(0, .agg #[.pointer X.p0, .pointer X.p1]), (1, .slice ra X.rs.length rc), (2, .slice X.ua X.un X.uc), (3, .map (some ix)), (6, .slice ea X.un ec), (8, .map (some rg)), (9, .slice sa X.un sc), (10, .pointer (some ⟨nm, 0, none⟩)), (11, .map (some re)), (12, .map (some ro))]).run Ybaz.prog w = .ok (.agg (compCells X.p0 X.p1 (.slice ra X.rs.length rc) (.slice X.ua X.un X.uc) ix nilS nilS nilS nilS (.slice ea X.un ec) nilS (.bool false) nilS nilS rg (.slice sa X.un sc) (some ⟨nm, 0, none⟩) re ro)) w := by
      unfold compCells nilS
      go_simp
    simp [execOp, h1, f2, f5, f6, f9, f12, f13, f16, f17, f23, f24, hr, Result.andThen]
  · refine ⟨by simp [l9], ix, rg, re, ro, ra, rc, ea, ec, sa, sc, nm, ?_, ?_, ?_, ?_, ?_, ?_, ?_, ?_, eval_same (by rw [h.size]; decide) _⟩
    · rw [eval_other _ (by decide)]; exact f9
    · rw [eval_other _ (by decide)]; exact f13
    · rw [eval_other _ (by decide)]; exact f18
    · rw [eval_other _ (by decide)]; exact f24
    · rw [eval_other _ (by decide)]; exact f5
    · rw [eval_other _ (by decide)]; exact f12
    · rw [eval_other _ (by decide)]; exact f16
    · rw [eval_other _ (by decide)]; exact f17
theorem st26 (hp : Pre12 X a0 w0) (h : Inv12 X a0 w0 L a w) (hL : L 26 = false) (hd : depsB (ops12 Ybaz.f14) L 26 = true) : wpOp Ybaz.prog (ops12 Ybaz.f14) Q 26 (Inv12 X a0 w0 (fun j => j == 26 || L j)) a w := by
  obtain ⟨_, ix, rg, re, ro, ra, rc, ea, ec, sa, sc, nm, _, _, _, _, _, _, _, _, f⟩ := h.facts 25 (by omega) (dep_of hd (by kernel_rfl))
  refine st_run (v := .pointer (some ⟨w.heap.size, 0, none⟩)) (w' := w.alloc (.cells (compCells X.p0 X.p1 (.slice ra X.rs.length rc) (.slice X.ua X.un X.uc) ix nilS nilS nilS nilS (.slice ea X.un ec) nilS (.bool false) nilS nilS rg (.slice sa X.un sc) (some ⟨nm, 0, none⟩) re ro) 80)) hp h (by omega) (by omega) hL hd o26 (fun o h1 => ?_) (World.grownBy_alloc w _ none) (fun e => absurd e (by decide)) ⟨_, eval_same (by rw [h.size]; decide) _, h.below.size, _, ?_, heap_alloc_new w _⟩
  · have hr : (Instr.box 80 (.agg (compCells X.p0 X.p1 (.slice ra X.rs.length rc) (.slice X.ua X.un X.uc) ix nilS nilS nilS nilS (.slice ea X.un ec) nilS (.bool false) nilS nilS rg (.slice sa X.un sc) (some ⟨nm, 0, none⟩) re ro))).run Ybaz.prog w = .ok (.pointer (some ⟨w.heap.size, 0, none⟩)) (w.alloc (.cells (compCells X.p0 X.p1 (.slice ra X.rs.length rc) (.slice X.ua X.un X.uc) ix nilS nilS nilS nilS (.slice ea X.un ec) nilS (.bool false) nilS nilS rg (.slice sa X.un sc) (some ⟨nm, 0, none⟩) re ro) 80)) := by
      unfold compCells nilS
      go_simp
    simp [execOp, h1, f, hr, Result.andThen]
  · rw [eval_other _ (by decide)]; exact f
theorem st27 (hp : Pre12 X a0 w0) (h : Inv12 X a0 w0 L a w) (hL : L 27 = false) (hd : depsB (ops12 Ybaz.f14) L 27 = true) : wpOp Ybaz.prog (ops12 Ybaz.f14) Q 27 (Inv12 X a0 w0 (fun j => j == 27 || L j)) a w := by
  refine st_move hp h (by omega) (by omega) (by decide) hL hd (.inr o27) rfl ?_
  show (a.put (some (slot12 27)) _).eval (.tmp (slot12 27)) = (a.put (some (slot12 27)) _).eval (.tmp 91)
  rw [eval_same (by rw [h.size]; decide), eval_other _ (by decide)]
theorem stAll (hp : Pre12 X a0 w0) (h : Inv12 X a0 w0 L a w) {k : Nat} (hk : k < 28) (hL : L k = false) (hd : depsB (ops12 Ybaz.f14) L k = true) : wpOp Ybaz.prog (ops12 Ybaz.f14) Q k (Inv12 X a0 w0 (fun j => j == k || L j)) a w := by
  match k, hk with
  | 0, _ => exact st0 hp h hL hd
  | 1, _ => exact st1 hp h hL hd
  | 2, _ => exact st2 hp h hL hd
  | 3, _ => exact st3 hp h hL hd
  | 4, _ => exact st4 hp h hL hd
  | 5, _ => exact st5 hp h hL hd
  | 6, _ => exact st6 hp h hL hd
  | 7, _ => exact st7 hp h hL hd
  | 8, _ => exact st8 hp h hL hd
  | 9, _ => exact st9 hp h hL hd
  | 10, _ => exact st10 hp h hL hd
  | 11, _ => exact st11 hp h hL hd
  | 12, _ => exact st12 hp h hL hd
  | 13, _ => exact st13 hp h hL hd
  | 14, _ => exact st14 hp h hL hd
  | 15, _ => exact st15 hp h hL hd
  | 16, _ => exact st16 hp h hL hd
  | 17, _ => exact st17 hp h hL hd
  | 18, _ => exact st18 hp h hL hd
  | 19, _ => exact st19 hp h hL hd
  | 20, _ => exact st20 hp h hL hd
  | 21, _ => exact st21 hp h hL hd
  | 22, _ => exact st22 hp h hL hd
  | 23, _ => exact st23 hp h hL hd
  | 24, _ => exact st24 hp h hL hd
  | 25, _ => exact st25 hp h hL hd
  | 26, _ => exact st26 hp h hL hd
  | 27, _ => exact st27 hp h hL hd
  | n + 28, hk => omega
end
/-! ### the frame behind the region -/
def fill (t : Array Value) (f : Nat → Value) : List Nat → Array Value
  | [] => t
  | s :: r => fill (t.setIfInBounds s (f s)) f r
theorem fill_size (f : Nat → Value) : ∀ (S : List Nat) (t : Array Value), (fill t f S).size = t.size
  | [], t => rfl
  | s :: r, t => by rw [fill, fill_size f r]; simp
theorem fill_get (f : Nat → Value) (j : Nat) : ∀ (S : List Nat) (t : Array Value), j < t.size → (fill t f S)[j]? = if j ∈ S then some (f j) else t[j]?
  | [], t, h => by simp [fill]
  | s :: r, t, h => by
    rw [fill, fill_get f j r _ (by simpa using h)]
    by_cases e : j ∈ r
    · simp [e]
    · by_cases e2 : s = j
      · subst e2; simp [e, h]
      · have : ¬ j = s := fun h => e2 h.symm
        simp [e, this, Array.getElem?_setIfInBounds_ne e2]
theorem eq_fill {t u : Array Value} {S : List Nat} (hs : u.size = t.size) (h : ∀ j, j ∉ S → u[j]? = t[j]?) : u = fill t (fun j => u.getD j undef) S := by
  apply Array.ext_getElem?
  intro j
  by_cases hj : j < t.size
  · rw [fill_get _ _ _ _ hj]
    by_cases e : j ∈ S
    · rw [if_pos e]
      have : j < u.size := by omega
      simp [Array.getD, this]
    · rw [if_neg e]; exact h j e
  · rw [Array.getElem?_eq_none (by omega), Array.getElem?_eq_none (by rw [fill_size]; omega)]
structure Post12 (X : In12) (w0 : World) (cb ix rg re ro nm : Nat) (ra : Option Addr) (rc : Nat) (ea : Option Addr) (ec : Nat) (sa : Option Addr) (sc : Nat) (w : World) : Prop where
  lo : w0.heap.size ≤ cb
  blk : w.heap[cb]? = some (.cells (compCells X.p0 X.p1 (.slice ra X.rs.length rc) (.slice X.ua X.un X.uc) ix nilS nilS nilS nilS (.slice ea X.un ec) nilS (.bool false) nilS nilS rg (.slice sa X.un sc) (some ⟨nm, 0, none⟩) re ro) 80 (0, 0))
  repos : w.ownsRow w0.heap.size 9 1 (.slice ra X.rs.length rc) X.rs.length (X.rs.map encStr)
  every : w.ownsRow w0.heap.size 3 1 (.slice ea X.un ec) X.un (madeCells #[.int .i64 0] X.un).toList
  slot : w.ownsRow w0.heap.size 21 1 (.slice sa X.un sc) X.un (madeCells #[.int .i32 0] X.un).toList
  index : w.ownsMap Ybaz.prog 9 Rh ix 0 (.map [])
  ixlo : w0.heap.size ≤ ix
  regr : w.ownsMap Ybaz.prog 9 Rh rg 0 (.map [])
  rests : w.ownsMap Ybaz.prog 9 Rh re 1 restD
  restsOf : w.ownsMap Ybaz.prog 319 Rh ro 0 (.map [])
  ne1 : ix ≠ rg
  ne2 : ix ≠ re
  ne3 : ix ≠ ro
  below : Below w0.heap.size w0 w
theorem region12 {X : In12} {a0 : Act} {w0 : World} {Q : Exit → Act → World → Prop} {ops : Array Oper} (hops : ops = (ops12 Ybaz.f14)) (hp : Pre12 X a0 w0)
    (hQ : ∀ (f : Nat → Value) (w' : World) (cb ix rg re ro nm : Nat) (ra : Option Addr) (rc : Nat) (ea : Option Addr) (ec : Nat) (sa : Option Addr) (sc : Nat), f 12 = .pointer (some ⟨cb, 0, none⟩) → Post12 X w0 cb ix rg re ro nm ra rc ea ec sa sc w' → Q .normal ⟨fill a0.tmps f S12, a0.defers⟩ w') :
    (Code.region 12 ops true).wp Ybaz.prog Q a0 w0 := by
  subst hops
  refine wp_region_inv (by kernel_rfl) (Inv12 X a0 w0) lex12 ⟨rfl, hp.size, fun _ _ => rfl, ⟨rfl, rfl, rfl, Nat.le_refl _, fun _ _ => rfl⟩, (fun _ _ h => by cases h), (fun _ _ h => by cases h)⟩ (fun L a w i h hi hL hd => stAll hp h (by rw [size12] at hi; exact hi) hL hd) ?_
  intro L a w h hall
  have hL : ∀ i, i < 28 → L i = true := fun i hi => hall i (by rw [size12]; exact hi)
  have ha : a = ⟨fill a0.tmps (fun j => a.tmps.getD j undef) S12, a0.defers⟩ := by
    rw [← eq_fill (by rw [h.size, hp.size]) h.other, ← h.defers]
  obtain ⟨_, ix, rg, re, ro, ra, rc, ea, ec, sa, sc, nm, g1, g2, g3, g4, g5, g6, g7, g8, g9⟩ := h.facts 25 (by omega) (hL 25 (by omega))
  obtain ⟨cb, k1, k2, cs, k3, k4⟩ := h.facts 26 (by omega) (hL 26 (by omega))
  have f27 : a.eval (.tmp 12) = a.eval (.tmp 91) := h.facts 27 (by omega) (hL 27 (by omega))
  rw [g9] at k3
  injection k3 with k3
  subst k3
  have f5 : w.ownsRow w0.heap.size 9 1 (a.eval (.tmp 71)) X.rs.length (X.rs.map encStr) := h.facts 5 (by omega) (hL 5 (by omega))
  have f12 : w.ownsRow w0.heap.size 3 1 (a.eval (.tmp 78)) X.un _ := h.facts 12 (by omega) (hL 12 (by omega))
  have f16 : w.ownsRow w0.heap.size 21 1 (a.eval (.tmp 82)) X.un _ := h.facts 16 (by omega) (hL 16 (by omega))
  obtain ⟨ix', x1, x2, x3, x4⟩ : NewMap 9 9 w0.heap.size L a w := h.facts 9 (by omega) (hL 9 (by omega))
  obtain ⟨rg', y1, y2, y3, y4⟩ : NewMap 9 13 w0.heap.size L a w := h.facts 13 (by omega) (hL 13 (by omega))
  obtain ⟨re', z1, z2, z3⟩ : ∃ b, a.eval (.tmp 84) = .map (some b) ∧ w0.heap.size ≤ b ∧ w.ownsMap Ybaz.prog 9 Rh b (if L 22 then 1 else 0) (if L 22 then restD else .map []) := h.facts 18 (by omega) (hL 18 (by omega))
  obtain ⟨ro', u1, u2, u3, u4⟩ : NewMap 319 24 w0.heap.size L a w := h.facts 24 (by omega) (hL 24 (by omega))
  have e1 : ix' = ix := by rw [show a.eval (.tmp (slot12 9)) = a.eval (.tmp 75) from rfl, g1] at x1; injection x1 with x1; injection x1 with x1; exact x1.symm
  have e2 : rg' = rg := by rw [show a.eval (.tmp (slot12 13)) = a.eval (.tmp 79) from rfl, g2] at y1; injection y1 with x1; injection x1 with x1; exact x1.symm
  have e3 : re' = re := by rw [g3] at z1; injection z1 with x1; injection x1 with x1; exact x1.symm
  have e4 : ro' = ro := by rw [show a.eval (.tmp (slot12 24)) = a.eval (.tmp 89) from rfl, g4] at u1; injection u1 with x1; injection x1 with x1; exact x1.symm
  subst e1 e2 e3 e4
  rw [hL 22 (by omega)] at z3
  rw [g5] at f5
  rw [g6] at f12
  rw [g7] at f16
  rw [ha]
  refine hQ _ w cb ix' rg' re' ro' nm ra rc ea ec sa sc (f27.trans k1) ⟨k2, k4, f5, f12, f16, x3, x2, y3, by simpa using z3, u3, fun e => ?_, fun e => ?_, fun e => ?_, h.below⟩
  · exact x4 13 (by decide) (by decide) (hL 13 (by omega)) (by rw [e]; exact g2)
  · exact x4 18 (by decide) (by decide) (hL 18 (by omega)) (by rw [e]; exact g3)
  · exact x4 24 (by decide) (by decide) (hL 24 (by omega)) (by rw [e]; exact g4)
end Go.Proofs.YbulkchuuGreatDoor
