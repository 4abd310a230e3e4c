import Derived.Test.YbulkchuuGreatDoorM0
namespace Go.Proofs.YbulkchuuGreatDoor
open Go.RowKit Go.Maps Classical
set_option linter.unusedVariables false
set_option linter.unusedSimpArgs false
set_option maxRecDepth 100000

/-- what is fixed of a comparison -/
structure CK where
  fb : Nat → Nat
  DD : Nat → DIn
  cb : Nat
  ix : Nat
  rg : Nat
  re : Nat
  ro : Nat
  nm : Nat
  eb : Nat
  gu : Nat
  ra : Option Addr
  rc : Nat
  ec : Nat
  sa : Option Addr
  sc : Nat
  uc : Nat
  rs : List (List UInt8)
  uL : List ByteArray
  U : Nat
def CK.cells (K : CK) (p m : Nat → Value) : Array Value := compCells (some ⟨K.fb 0, 0, none⟩) (some ⟨K.fb 1, 0, none⟩) (.slice K.ra K.rs.length K.rc) (.slice (some ⟨K.gu, 0, none⟩) K.U K.uc) K.ix (p 0) (p 1) (m 0) (m 1) (.slice (some ⟨K.eb, 0, none⟩) K.U K.ec) nilS (.bool false) nilS nilS K.rg (.slice K.sa K.U K.sc) (some ⟨K.nm, 0, none⟩) K.re K.ro
def upd (p : Nat → Value) (k : Nat) (v : Value) : Nat → Value := fun j => if j = k then v else p j
theorem CK.set_p (K : CK) (p m : Nat → Value) (k : Nat) (hk : k < 2) (v : Value) : (K.cells p m).setIfInBounds (5 + k) v = K.cells (upd p k v) m := by
  have : k = 0 ∨ k = 1 := by omega
  rcases this with rfl | rfl <;> simp [CK.cells, compCells, upd]
theorem CK.set_m (K : CK) (p m : Nat → Value) (k : Nat) (hk : k < 2) (v : Value) : (K.cells p m).setIfInBounds (7 + k) v = K.cells p (upd m k v) := by
  have : k = 0 ∨ k = 1 := by omega
  rcases this with rfl | rfl <;> simp [CK.cells, compCells, upd]
theorem CK.get_p (K : CK) (p m : Nat → Value) (k : Nat) (hk : k < 2) : (K.cells p m)[5 + k]? = some (p k) := by
  have : k = 0 ∨ k = 1 := by omega
  rcases this with rfl | rfl <;> simp [CK.cells, compCells]
theorem CK.get_m (K : CK) (p m : Nat → Value) (k : Nat) (hk : k < 2) : (K.cells p m)[7 + k]? = some (m k) := by
  have : k = 0 ∨ k = 1 := by omega
  rcases this with rfl | rfl <;> simp [CK.cells, compCells]
/-- what lies beside the comparison's own block -/
structure Base (Bd : Nat) (K : CK) (w : World) : Prop where
  files : Files Bd K.fb K.DD (fun i => listOf (K.DD i)) (fun i => withinOf (K.DD i)) w
  repos : w.ownsRow 0 9 1 (.slice K.ra K.rs.length K.rc) K.rs.length (K.rs.map encStr)
  users : w.ownsRow 0 9 1 (.slice (some ⟨K.gu, 0, none⟩) K.U K.uc) K.U (K.uL.map Value.string)
  every : EvAt K.eb K.U K.U w
  slot : w.ownsRow 0 21 1 (.slice K.sa K.U K.sc) K.U (madeCells #[.int .i32 0] K.U).toList
  index : ∃ n Di, w.ownsMap Ybaz.prog 9 Rh K.ix n Di ∧ IxAt K.uL K.U Di
  regr : w.ownsMap Ybaz.prog 9 Rh K.rg 0 (.map [])
  rests : w.ownsMap Ybaz.prog 9 Rh K.re 1 restD
  restsOf : w.ownsMap Ybaz.prog 319 Rh K.ro 0 (.map [])
theorem Base.keep {Bd : Nat} {K : CK} {w w' : World} {cs : Array Value} (h : Base Bd K w) (hcb : w.heap[K.cb]? = some (.cells cs 80 (0, 0))) (hBd : Bd ≤ K.cb) (hF : Fr (fun b => b = K.cb) w w') (hBw : Bd ≤ w.heap.size) : Base Bd K w' where
  files := h.files.below (hF.below hBw (fun k hk e => by omega))
  repos := own_move h.repos (fun g hg hl => hF.block g hl (fun e => own_tag h.repos hcb (by decide) (by rw [hg, e])))
  users := own_move h.users (fun g hg hl => hF.block g hl (fun e => own_tag h.users hcb (by decide) (by rw [hg, e])))
  every := by
    obtain ⟨cur, h1, h2⟩ := h.every
    exact ⟨cur, hF.keep h1 (fun e => by rw [e, hcb] at h1; simp at h1), h2⟩
  slot := own_move h.slot (fun g hg hl => hF.block g hl (fun e => own_tag h.slot hcb (by decide) (by rw [hg, e])))
  index := by
    obtain ⟨n, Di, ⟨es, c, h1, h2⟩, h3⟩ := h.index
    exact ⟨n, Di, ⟨es, c, hF.keep h1 (fun e => by rw [e, hcb] at h1; cases h1), h2⟩, h3⟩
  regr := by
    obtain ⟨es, c, h1, h2⟩ := h.regr
    exact ⟨es, c, hF.keep h1 (fun e => by rw [e, hcb] at h1; cases h1), h2⟩
  rests := by
    obtain ⟨es, c, h1, h2⟩ := h.rests
    exact ⟨es, c, hF.keep h1 (fun e => by rw [e, hcb] at h1; cases h1), h2⟩
  restsOf := by
    obtain ⟨es, c, h1, h2⟩ := h.restsOf
    exact ⟨es, c, hF.keep h1 (fun e => by rw [e, hcb] at h1; cases h1), h2⟩
/-! ### the groups of a user that are asked for -/
def AskedP (D : DIn) (g : Nat) : Prop := 0 < D.n ∧ ∃ j, j < D.gn ∧ D.grp j % D.n = (g : Int)
def InGrp (D : DIn) (u : ByteArray) (g : Nat) : Prop := AskedP D g ∧ Rch (listOf D u) (withinOf D) (g : Int)
def grpOf (D : DIn) [∀ (u : ByteArray) (g : Nat), Decidable (InGrp D u g)] (u : ByteArray) : List Int := ((List.range D.n.toNat).filter (fun g => decide (InGrp D u g))).map (fun g : Nat => (g : Int))
def mOf (D : DIn) [∀ (u : ByteArray) (g : Nat), Decidable (InGrp D u g)] (uL : List ByteArray) (i g : Nat) : List Int := ((List.range i).filter (fun j => decide (InGrp D (uL.getD j ⟨#[]⟩) g))).map (fun j : Nat => (j : Int))
def askB (D : DIn) [∀ g : Nat, Decidable (AskedP D g)] (g : Nat) : Bool := decide (AskedP D g)
theorem strict_eq : ∀ (l l' : List Int), l.Pairwise (· < ·) → l'.Pairwise (· < ·) → (∀ x, x ∈ l ↔ x ∈ l') → l = l'
  | [], [], _, _, _ => rfl
  | [], b :: l', _, _, h => by have := (h b).2 (by simp); simp at this
  | a :: l, [], _, _, h => by have := (h a).1 (by simp); simp at this
  | a :: l, b :: l', h1, h2, h => by
    rw [List.pairwise_cons] at h1 h2
    have hab : a = b := by
      have k1 := (h a).1 (by simp)
      have k2 := (h b).2 (by simp)
      rcases List.mem_cons.1 k1 with e | e
      · exact e
      · rcases List.mem_cons.1 k2 with e' | e'
        · exact e'.symm
        · have := h2.1 a e
          have := h1.1 b e'
          omega
    subst hab
    congr 1
    refine strict_eq l l' h1.2 h2.2 (fun x => ?_)
    constructor
    · intro hx
      rcases List.mem_cons.1 ((h x).1 (by simp [hx])) with e | e
      · subst e; have := h1.1 x hx; omega
      · exact e
    · intro hx
      rcases List.mem_cons.1 ((h x).2 (by simp [hx])) with e | e
      · subst e; have := h2.1 x hx; omega
      · exact e
theorem pw_mono {α : Type} {r s : α → α → Prop} (h : ∀ a b, r a b → s a b) : ∀ l : List α, l.Pairwise r → l.Pairwise s
  | [], _ => .nil
  | a :: l, hl => by
    rw [List.pairwise_cons] at hl ⊢
    exact ⟨fun b hb => h a b (hl.1 b hb), pw_mono h l hl.2⟩
theorem range_strict (n : Nat) (p : Nat → Bool) : (((List.range n).filter p).map (fun g : Nat => (g : Int))).Pairwise (· < ·) := by
  rw [List.pairwise_map]
  exact pw_mono (fun a b h => by omega) _ (List.Pairwise.filter _ (List.pairwise_lt_range (n := n)))
theorem rch_in {D : DIn} (hS : Small D) (u : ByteArray) (x : Int) (h : Rch (listOf D u) (withinOf D) x) : 0 ≤ x ∧ x < D.n := by
  refine h (fun x => 0 ≤ x ∧ x < D.n) (fun x hx => ?_) (fun g y ih hy => ?_)
  · have hl := (listOf_ok hS u).1 x hx
    have : 0 < D.n := by
      rcases Int.lt_or_le 0 D.n with h | h
      · exact h
      · unfold listOf at hx; rw [if_neg (by omega)] at hx; simp at hx
    omega
  · have hn : 0 < D.n := by omega
    have := (withinOf_ok hS hn g.toNat).1 y hy
    omega
/-- what DeleteFunc leaves of the reached groups -/
theorem filter_grp {D : DIn} (hS : Small D) (u : ByteArray) (gl : List Int) (hp : gl.Pairwise (· < ·)) (hm : ∀ x, x ∈ gl ↔ Rch (listOf D u) (withinOf D) x) : gl.filter (fun x => askB D x.toNat) = grpOf D u := by
  refine strict_eq _ _ (hp.filter _) (range_strict _ _) (fun x => ?_)
  rw [List.mem_filter, hm]
  unfold grpOf
  simp only [List.mem_map, List.mem_filter, List.mem_range, decide_eq_true_eq]
  constructor
  · rintro ⟨h1, h2⟩
    have := rch_in hS u x h1
    refine ⟨x.toNat, ⟨by omega, by simpa [askB] using h2, by rw [show ((x.toNat : Nat) : Int) = x by omega]; exact h1⟩, by omega⟩
  · rintro ⟨g, ⟨h1, h2, h3⟩, rfl⟩
    exact ⟨h3, by simpa [askB] using h2⟩
theorem grp_in {D : DIn} (u : ByteArray) (x : Int) (hx : x ∈ grpOf D u) : 0 ≤ x ∧ x < (D.n.toNat : Int) ∧ InGrp D u x.toNat := by
  unfold grpOf at hx
  simp only [List.mem_map, List.mem_filter, List.mem_range, decide_eq_true_eq] at hx
  obtain ⟨g, ⟨h1, h2⟩, rfl⟩ := hx
  exact ⟨by omega, by omega, by simpa using h2⟩
theorem mem_grp {D : DIn} (u : ByteArray) (g : Nat) (hg : g < D.n.toNat) : (g : Int) ∈ grpOf D u ↔ InGrp D u g := by
  unfold grpOf
  simp only [List.mem_map, List.mem_filter, List.mem_range, decide_eq_true_eq]
  constructor
  · rintro ⟨g', ⟨_, h2⟩, e⟩
    have : g' = g := by omega
    rw [← this]; exact h2
  · intro h
    exact ⟨g, ⟨hg, h⟩, rfl⟩
theorem mOf_succ (D : DIn) (uL : List ByteArray) (i g : Nat) (u : ByteArray) (hu : uL[i]? = some u) (hg : g < D.n.toNat) : mOf D uL (i + 1) g = mOf D uL i g ++ if (g : Int) ∈ grpOf D u then [(i : Int)] else [] := by
  unfold mOf
  have hd : uL.getD i ⟨#[]⟩ = u := by simp [hu]
  rw [List.range_succ, List.filter_append, List.map_append]
  congr 1
  by_cases h : InGrp D u g
  · rw [if_pos ((mem_grp u g hg).2 h)]
    simp [hu, h]
  · rw [if_neg (fun h' => h ((mem_grp u g hg).1 h'))]
    simp [hu, h]
end Go.Proofs.YbulkchuuGreatDoor
