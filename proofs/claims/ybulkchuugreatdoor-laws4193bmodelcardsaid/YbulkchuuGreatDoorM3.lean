import Derived.Test.YbulkchuuGreatDoorM2
namespace Go.Proofs.YbulkchuuGreatDoor
open Go.RowKit Go.Maps Classical
set_option linter.unusedVariables false
set_option linter.unusedSimpArgs false
set_option maxRecDepth 100000

def Row21 (S : Nat → Prop) (v : Value) (fl : List Int) (w : World) : Prop := w.ownsRow 0 21 1 v fl.length (I32s fl) ∧ ∀ b, v.ownBlock = some b → S b
theorem Row21.keep {S S' : Nat → Prop} {v : Value} {fl : List Int} {w w' : World} (h : Row21 S v fl w) (hk : Kp S w w') (hs : ∀ b, S b → S' b) : Row21 S' v fl w' :=
  ⟨own_move h.1 (fun g hg _ => hk g (h.2 g hg)), fun b hb => hs b (h.2 b hb)⟩
/-- one principal's cells -/
def PrinCell (Bd fbk : Nat) (D : DIn) (u : ByteArray) (S : Nat → Prop) (cur : Array Value) (j : Nat) (w : World) : Prop := ∃ A C gv, cur[j * 6]? = some (.string u) ∧ cur[j * 6 + 1]? = some (.slice A (listOf D u).length C) ∧ cur[j * 6 + 2]? = some (.pointer (some ⟨fbk, 5, none⟩)) ∧
  cur[j * 6 + 3]? = some gv ∧ cur[j * 6 + 4]? = some (.bool true) ∧ cur[j * 6 + 5]? = some (.slice none 0 0) ∧ ReadI Bd A (listOf D u) w ∧ Row21 S gv (grpOf D u) w
def PrinAt (Bd fbk : Nat) (D : DIn) (uL : List ByteArray) (U pb i : Nat) (S : Nat → Prop) (w : World) : Prop := ∃ cur, w.heap[pb]? = some (.cells cur 109 (0, 0)) ∧ cur.size = U * 6 ∧ ∀ j u, j < i → uL[j]? = some u → PrinCell Bd fbk D u S cur j w
theorem PrinAt.keep {Bd fbk : Nat} {D : DIn} {uL : List ByteArray} {U pb i : Nat} {S S' : Nat → Prop} {w w' : World} (h : PrinAt Bd fbk D uL U pb i S w) (hpb : w'.heap[pb]? = w.heap[pb]?) (hk : Kp S w w') (hs : ∀ b, S b → S' b) (hb : Below Bd w w') : PrinAt Bd fbk D uL U pb i S' w' := by
  obtain ⟨cur, h1, h2, h3⟩ := h
  refine ⟨cur, hpb.trans h1, h2, fun j u hj hu => ?_⟩
  obtain ⟨A, C, gv, e0, e1, e2, e3, e4, e5, e6, e7⟩ := h3 j u hj hu
  exact ⟨A, C, gv, e0, e1, e2, e3, e4, e5, e6.below hb, e7.keep hk hs⟩
def MembAt (D : DIn) (uL : List ByteArray) (mb n : Nat) (L : Nat → List Int) (S : Nat → Prop) (w : World) : Prop := ∃ cur, w.heap[mb]? = some (.cells cur 77 (0, 0)) ∧ cur.size = n ∧ (∀ g, g < n → ∃ v, cur[g]? = some v ∧ Row21 S v (L g) w) ∧
  ∀ (g g' : Nat) (v v' : Value) (b : Nat), g ≠ g' → cur[g]? = some v → cur[g']? = some v' → v.ownBlock = some b → v'.ownBlock ≠ some b
theorem MembAt.keep {D : DIn} {uL : List ByteArray} {mb n : Nat} {L : Nat → List Int} {S S' : Nat → Prop} {w w' : World} (h : MembAt D uL mb n L S w) (hmb : w'.heap[mb]? = w.heap[mb]?) (hk : Kp S w w') (hs : ∀ b, S b → S' b) : MembAt D uL mb n L S' w' := by
  obtain ⟨cur, h1, h2, h3, h4⟩ := h
  refine ⟨cur, hmb.trans h1, h2, fun g hg => ?_, h4⟩
  obtain ⟨v, e1, e2⟩ := h3 g hg
  exact ⟨v, e1, e2.keep hk hs⟩
/-- a file's part of the comparison is laid -/
def Done (Bd : Nat) (K : CK) (k : Nat) (pv mv : Value) (T : Nat → Prop) (w : World) : Prop := ∃ pb mb, pv = .slice (some ⟨pb, 0, none⟩) K.U K.U ∧ mv = .slice (some ⟨mb, 0, none⟩) (K.DD k).n.toNat (K.DD k).n.toNat ∧ T pb ∧ T mb ∧
  PrinAt Bd (K.fb k) (K.DD k) K.uL K.U pb K.U T w ∧ MembAt (K.DD k) K.uL mb (K.DD k).n.toNat (mOf (K.DD k) K.uL K.U) T w
theorem Done.keep {Bd : Nat} {K : CK} {k : Nat} {pv mv : Value} {T T' : Nat → Prop} {w w' : World} (h : Done Bd K k pv mv T w) (hk : Kp T w w') (hs : ∀ b, T b → T' b) (hb : Below Bd w w') : Done Bd K k pv mv T' w' := by
  obtain ⟨pb, mb, e1, e2, t1, t2, h1, h2⟩ := h
  exact ⟨pb, mb, e1, e2, hs _ t1, hs _ t2, h1.keep (hk pb t1) hk hs hb, h2.keep (hk mb t2) hk hs⟩
/-- the principal that is found, between the users -/
def Found (Bd fd : Nat) (S : Nat → Prop) (w : World) : Prop := ∃ (nv lv mv wv gr se : Value) (k0 : Nat) (xs0 : List Value), PrB fd nv lv mv gr wv se w ∧ w.ownsRow Bd 21 1 gr k0 xs0 ∧ Clear Bd se w ∧ Off S gr ∧ Off S se
theorem Clear.move {Bd : Nat} {se : Value} {w w' : World} (h : Clear Bd se w) (hk : ∀ b, se.ownBlock = some b → b < w.heap.size → w'.heap[b]? = w.heap[b]?) : Clear Bd se w' := by
  rcases h with h | ⟨sb, sl, sc, e, h1, h2⟩
  · exact .inl h
  · refine .inr ⟨sb, sl, sc, e, h1, h2.move (hk sb (by rw [e]; rfl) ?_)⟩
    obtain ⟨c, k1, _⟩ := h2
    exact heap_lt k1
theorem Clear.lt {Bd : Nat} {se : Value} {w : World} (h : Clear Bd se w) {b : Nat} (hb : se.ownBlock = some b) : b < w.heap.size ∧ ∃ c, w.heap[b]? = some (.cells c 32 (0, 0)) := by
  rcases h with h | ⟨sb, sl, sc, e, h1, c, k1, _⟩
  · rw [h] at hb; simp [Value.ownBlock] at hb
  · rw [e] at hb
    simp only [Value.ownBlock, Option.some.injEq] at hb
    subst hb
    exact ⟨heap_lt k1, c, k1⟩
theorem Found.keep {Bd fd : Nat} {S S' : Nat → Prop} {w w' : World} (h : Found Bd fd S w) (hfd : ¬ S fd) (hk : ∀ b, b < w.heap.size → ¬ S b → w'.heap[b]? = w.heap[b]?) (hS : ∀ b, b < w.heap.size → S' b → S b) : Found Bd fd S' w' := by
  obtain ⟨nv, lv, mv, wv, gr, se, k0, xs0, h1, h2, h3, h4, h5⟩ := h
  exact ⟨nv, lv, mv, wv, gr, se, k0, xs0, (hk fd (heap_lt h1) hfd).trans h1, own_move h2 (fun g hg hl => hk g hl (h4 g hg)), h3.move (fun b hb hl => hk b hl (h5 b hb)), fun b hb hs => h4 b hb (hS b (h2.lt b hb).2 hs), fun b hb hs => h5 b hb (hS b (h3.lt hb).1 hs)⟩
theorem MembAt.start {D : DIn} {uL : List ByteArray} {mb n B : Nat} {w : World} (h : w.ownsRow B 77 1 (.slice (some ⟨mb, 0, none⟩) n n) n (madeCells #[.slice none 0 0] n).toList) : MembAt D uL mb n (mOf D uL 0) (fun _ => False) w := by
  rcases h.2 with ⟨h, _⟩ | ⟨g', cap, cur, h, _, hg, _, _, hs, ht⟩
  · cases h
  · injection h with e1 e2 e3
    injection e1 with e1
    injection e1 with e1
    subst e1 e3
    have hc : ∀ g, g < n → cur[g]? = some (.slice none 0 0) := fun g hg => by
      have : (cur.toList.take (n * 1))[g]? = some (.slice none 0 0) := by rw [ht]; simp [madeCells, hg, Nat.mod_one]
      rw [List.getElem?_take, if_pos (by omega)] at this
      simpa using this
    refine ⟨cur, hg, by omega, fun g hg => ⟨_, hc g hg, ?_⟩, fun g g' v v' b _ h1 _ h3 => ?_⟩
    · exact ⟨by simpa [mOf] using World.ownsRow_nil w 0 21 1, fun b hb => by simp [Value.ownBlock] at hb⟩
    · have hgl : g < n := by
        have := (Array.getElem?_eq_some_iff.1 h1).1
        omega
      rw [hc g hgl] at h1
      injection h1 with h1
      rw [← h1] at h3
      simp [Value.ownBlock] at h3
theorem PrinAt.start {Bd fbk : Nat} {D : DIn} {uL : List ByteArray} {U pb B : Nat} {w : World} {xs : List Value} (h : w.ownsRow B 109 6 (.slice (some ⟨pb, 0, none⟩) U U) U xs) : PrinAt Bd fbk D uL U pb 0 (fun _ => False) w := by
  rcases h.2 with ⟨h, _⟩ | ⟨g', cap, cur, h, _, hg, _, _, hs, ht⟩
  · cases h
  · injection h with e1 e2 e3
    injection e1 with e1
    injection e1 with e1
    subst e1 e3
    exact ⟨cur, hg, hs, fun j u hj => by omega⟩
/-- between two users of a file -/
structure L7 (Bd fd pb mb N fbk : Nat) (D : DIn) (uL : List ByteArray) (U : Nat) (P0 G Mm : Nat → Prop) (w14 : World) (i : Nat) (w : World) : Prop where
  g : ∀ b, G b → w14.heap.size ≤ b ∧ b < w.heap.size
  m : ∀ b, Mm b → w14.heap.size ≤ b ∧ b < w.heap.size
  gm : ∀ b, G b → ¬ Mm b
  found : Found Bd fd (fun b => P0 b ∨ G b ∨ Mm b) w
  prin : PrinAt Bd fbk D uL U pb i G w
  memb : MembAt D uL mb N (mOf D uL i) Mm w
  kp : Kp (fun b => P0 b ∧ b ≠ pb ∧ b ≠ mb) w14 w
  below : Below Bd w14 w
theorem look85 {w : World} {lmb kk len C : Nat} {A : Option Addr} {Dl : DataW Value} {u : ByteArray} (ho : w.ownsMap Ybaz.prog 9 Rh lmb kk Dl) (hu : u.size ≤ maxLen) (hat : Dl.atKey (.string u.data.toList) (.held (.slice none 0 0)) = .held (.slice A len C)) (W : World) (hW : W.heap[lmb]? = w.heap[lmb]?) :
    (Instr.lookup 85 (.map (some lmb)) (.string u) false).run Ybaz.prog W = .ok (.slice A len C) W := by
  have ho' : W.ownsMap Ybaz.prog 9 Rh lmb kk Dl := by
    obtain ⟨es, c, h1, h2⟩ := ho
    exact ⟨es, c, hW.trans h1, h2⟩
  obtain ⟨v, ps, h1, h2⟩ := ho'.lookup law9' Ybaz.underlying85 (z := .slice none 0 0) (Ybaz.zeroValue77 W) (zd := .held (.slice none 0 0)) (zp := []) rfl (key9' u hu)
  rw [hat] at h2
  simp only [Rh, Option.some.injEq, Prod.mk.injEq, DataW.held.injEq] at h2
  rw [h2.1] at h1
  exact h1
end Go.Proofs.YbulkchuuGreatDoor
