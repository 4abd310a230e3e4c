import Derived.Test.YbulkchuuGreatDoorMd
import Derived.Test.YbulkchuuGreatDoorV0
import Derived.BigQuiet
namespace Go.Proofs.YbulkchuuGreatDoor
open Go.RowKit Go.Maps
set_option linter.unusedVariables false
set_option linter.unusedSimpArgs false
set_option maxRecDepth 100000

/-- the law's two data -/
structure LawIn (Bd : Nat) (DD : Nat → DIn) (w : World) : Prop where
  lo : Bd ≤ w.heap.size
  h8 : 8 ≤ w.heap.size
  ind : ∀ i, i < 2 → InD Bd (DD i) w
  tab : Lib.TabIs Ybaz.prog w "internal/strconv.uint64pow10" .u64 Lib.pow10Tab
  seg : ∃ T fr, w.heap[0]? = some (.cells segCells T fr)
def LawPost (w : World) (e : Ending) (w' : World) : Prop := e = .returned (.bool true) ∧ Below w.heap.size w w'
theorem ReadI.mono {Bd Bd' : Nat} {a : Option Addr} {xs : List Int} {w : World} (h : ReadI Bd a xs w) (hB : Bd ≤ Bd') : ReadI Bd' a xs w := fun k x hk => by
  obtain ⟨bb, off, h1, h2, h3⟩ := h k x hk
  exact ⟨bb, off, h1, by omega, h3⟩
theorem FileAt.mono {Bd Bd' fb : Nat} {D : DIn} {lst : ByteArray → List Int} {W : Nat → List Int} {w : World} (h : FileAt Bd fb D lst W w) (hB : Bd ≤ Bd') : FileAt Bd' fb D lst W w where
  lt := Nat.lt_of_lt_of_le h.lt hB
  rules := by
    obtain ⟨rb, Dm, k, h1, h2, h3, h4, h5⟩ := h.rules
    exact ⟨rb, Dm, k, h1, by omega, h3, h4.keep (Nat.le_refl _) hB (fun _ _ _ => rfl), h5⟩
  lits := h.lits
  wilds := h.wilds
  named := by
    obtain ⟨a, c, h1, h2⟩ := h.named
    exact ⟨a, c, h1, fun j hj => by obtain ⟨bb, off, k1, k2, k3⟩ := h2 j hj; exact ⟨bb, off, k1, by omega, k3⟩⟩
  listing := by
    obtain ⟨mb, Dl, k, h1, h2, h3, h4⟩ := h.listing
    refine ⟨mb, Dl, k, h1, by omega, h3, fun u hu => ?_⟩
    obtain ⟨A, C, k1, k2⟩ := h4 u hu
    exact ⟨A, C, k1, k2.mono hB⟩
  lsts := h.lsts
  within := by
    obtain ⟨h0, wa, wc, h1, h2⟩ := h.within
    refine ⟨by omega, wa, wc, h1, fun g hg => ?_⟩
    obtain ⟨wb, woff, A, C, e, k1, k2, k3, k4, k5⟩ := h2 g hg
    exact ⟨wb, woff, A, C, e, by omega, k2, k3.mono hB, k4, k5⟩
theorem some106 : (Ybaz.prog.info? 106).isSome = true := by kernel_rfl
theorem some88 : (Ybaz.prog.info? 88).isSome = true := by kernel_rfl
theorem ptr_ne62 (a : Addr) (W : World) : (binOp BinOp.neq 62 (.pointer (some a)) (.pointer (some a))).run Ybaz.prog W = .ok (.bool false) W := by
  obtain ⟨j, hj⟩ := Option.isSome_iff_exists.1 some106
  exact Lib.run_neq_ptr_same W a Ybaz.underlying62 hj
theorem ptr_ne107 (a : Addr) (W : World) : (binOp BinOp.neq 107 (.pointer (some a)) (.pointer (some a))).run Ybaz.prog W = .ok (.bool false) W := by
  obtain ⟨j, hj⟩ := Option.isSome_iff_exists.1 some88
  exact Lib.run_neq_ptr_same W a Ybaz.underlying107 hj
theorem Base.up {Bd : Nat} {K : CK} {w w' : World} (h : Base Bd K w) (hB : Below w.heap.size w w') (hBd : Bd ≤ w.heap.size) : Base Bd K w' where
  files := h.files.below (hB.mono hBd)
  repos := own_move h.repos (fun g hg hl => hB.block g hl)
  users := own_move h.users (fun g hg hl => hB.block g hl)
  every := by
    obtain ⟨cur, h1, h2⟩ := h.every
    exact ⟨cur, (hB.block _ (heap_lt h1)).trans h1, h2⟩
  slot := own_move h.slot (fun g hg hl => hB.block g hl)
  index := by
    obtain ⟨n, Di, ⟨es, c, h1, h2⟩, h3⟩ := h.index
    exact ⟨n, Di, ⟨es, c, (hB.block _ (heap_lt h1)).trans h1, h2⟩, h3⟩
  regr := by
    obtain ⟨es, c, h1, h2⟩ := h.regr
    exact ⟨es, c, (hB.block _ (heap_lt h1)).trans h1, h2⟩
  rests := by
    obtain ⟨es, c, h1, h2⟩ := h.rests
    exact ⟨es, c, (hB.block _ (heap_lt h1)).trans h1, h2⟩
  restsOf := by
    obtain ⟨es, c, h1, h2⟩ := h.restsOf
    exact ⟨es, c, (hB.block _ (heap_lt h1)).trans h1, h2⟩
/-- what stands behind newComparison's call -/
structure Mid (w : World) (Bd : Nat) (DD : Nat → DIn) (K : CK) (p m : Nat → Value) (T : Nat → Prop) (ss : List (List UInt8)) (lg db fsb : Nat) (W : World) : Prop where
  low : Below w.heap.size w W
  bd : Bd ≤ W.heap.size
  ind : ∀ i, i < 2 → InD Bd (DD i) W
  small : ∀ i, i < 2 → Small (DD i)
  data : ∀ i, i < 2 → DAt (w.heap.size + i) (DD i) W
  ds : W.heap[db]? = some (.cells #[.pointer (some ⟨w.heap.size, 0, none⟩), .pointer (some ⟨w.heap.size + 1, 0, none⟩)] 61 (0, 0))
  fs : W.heap[fsb]? = some (.cells #[.pointer (some ⟨K.fb 0, 0, none⟩), .pointer (some ⟨K.fb 1, 0, none⟩)] 64 (0, 0))
  kd : K.DD = DD
  ku : K.uL = uName ss ⟨(Lib.repeatL [63] (lg + 1)).toArray⟩
  kU : K.U = ss.length + 2
  cb : W.heap[K.cb]? = some (.cells (K.cells p m) 80 (0, 0))
  base : Base Bd K W
  done : ∀ k, k < 2 → Done Bd K k (p k) (m k) T W
  tlt : ∀ b, T b → b < W.heap.size
  ssF : ss.Pairwise (fun a b => decide (a ≤ b) = true) ∧ ss.Nodup ∧ (∀ x, x ∈ ss ↔ SetTo DD 2 x) ∧ (∀ x ∈ ss, x.length ≤ lg) ∧ (lg = 0 ∨ ∃ x ∈ ss, x.length = lg) ∧ lg ≤ 140737488351232 ∧ ss.length ≤ 600000
  rsF : K.rs.Pairwise (fun a b => decide (a ≤ b) = true) ∧ K.rs.Nodup ∧ (∀ x, x ∈ K.rs ↔ RepoTo DD 2 x) ∧ K.rs.length ≤ 1000000
theorem Mid.up {w : World} {Bd : Nat} {DD : Nat → DIn} {K : CK} {p m : Nat → Value} {T : Nat → Prop} {ss : List (List UInt8)} {lg db fsb : Nat} {W W' : World} (h : Mid w Bd DD K p m T ss lg db fsb W) (hB : Below W.heap.size W W') : Mid w Bd DD K p m T ss lg db fsb W' where
  low := h.low.trans (hB.mono h.low.size)
  bd := Nat.le_trans h.bd hB.size
  ind i hi := (h.ind i hi).below (hB.mono h.bd)
  small := h.small
  data i hi := (hB.block _ (heap_lt (h.data i hi))).trans (h.data i hi)
  ds := (hB.block _ (heap_lt h.ds)).trans h.ds
  fs := (hB.block _ (heap_lt h.fs)).trans h.fs
  kd := h.kd
  ku := h.ku
  kU := h.kU
  cb := (hB.block _ (heap_lt h.cb)).trans h.cb
  base := h.base.up hB h.bd
  done k hk := (h.done k hk).keep (fun b hb => hB.block b (h.tlt b hb)) (fun b hb => hb) (hB.mono h.bd)
  tlt b hb := Nat.lt_of_lt_of_le (h.tlt b hb) hB.size
  ssF := h.ssF
  rsF := h.rsF
theorem repo_mem (DD : Nat → DIn) (x : List UInt8) : x ∈ bytesL (repoL DD) ↔ RepoTo DD 2 x := by
  rw [mem_bytes]
  unfold repoL RepoTo
  constructor
  · rintro ⟨s, hs, rfl⟩
    rcases List.mem_append.1 hs with h | h
    · rcases List.mem_cons.1 h with h | h
      · subst h; exact .inl rfl
      · obtain ⟨j, h1, rfl⟩ := mem_strL.1 h
        exact .inr ⟨0, by omega, j, h1, rfl⟩
    · obtain ⟨j, h1, rfl⟩ := mem_strL.1 h
      exact .inr ⟨1, by omega, j, h1, rfl⟩
  · rintro (rfl | ⟨i, hi, j, hj, rfl⟩)
    · exact ⟨⟨#[]⟩, by simp, rfl⟩
    · have : i = 0 ∨ i = 1 := by omega
      rcases this with rfl | rfl
      · exact ⟨_, List.mem_append_left _ (List.mem_cons_of_mem _ (mem_strL.2 ⟨j, hj, rfl⟩)), rfl⟩
      · exact ⟨_, List.mem_append_right _ (mem_strL.2 ⟨j, hj, rfl⟩), rfl⟩
theorem compact_eq {l : List (List UInt8)} {r : List (List UInt8)} (h1 : r.Pairwise (fun a b => decide (a ≤ b) = true)) (h2 : r.Nodup) (hm : ∀ x, x ∈ r ↔ x ∈ l) : Lib.compact (l.mergeSort leB) = r := by
  obtain ⟨k1, k2, k3⟩ := compact_sorted (l.mergeSort leB) (sorted_le _)
  exact str_eq k1 h1 k2 h2 (fun x => by rw [k3, List.mem_mergeSort, hm])
theorem repos_law {DD : Nat → DIn} {rs : List (List UInt8)} (h : rs.Pairwise (fun a b => decide (a ≤ b) = true) ∧ rs.Nodup ∧ (∀ x, x ∈ rs ↔ RepoTo DD 2 x) ∧ rs.length ≤ 1000000) : Lib.compact ((bytesL (repoL DD)).mergeSort leB) = rs :=
  compact_eq h.1 h.2.1 (fun x => by rw [h.2.2.1 x, repo_mem])
def nameLL (DD : Nat → DIn) : List ByteArray := nameL (DD 0) (DD 0).un ++ nameL (DD 1) (DD 1).un
theorem names_law {DD : Nat → DIn} {ss : List (List UInt8)} (h1 : ss.Pairwise (fun a b => decide (a ≤ b) = true)) (h2 : ss.Nodup) (h3 : ∀ x, x ∈ ss ↔ SetTo DD 2 x) : Lib.compact ((bytesL (nameLL DD)).mergeSort leB) = ss :=
  compact_eq h1 h2 (fun x => by
    rw [h3 x]
    unfold nameLL bytesL SetTo
    rw [List.map_append, List.mem_append]
    have e0 := name_mem (DD 0) x
    have e1 := name_mem (DD 1) x
    unfold bytesL at e0 e1
    rw [e0, e1]
    constructor
    · rintro ⟨i, hi, h⟩
      have : i = 0 ∨ i = 1 := by omega
      rcases this with rfl | rfl
      · exact .inl h
      · exact .inr h
    · rintro (h | h)
      · exact ⟨0, by omega, h⟩
      · exact ⟨1, by omega, h⟩)
end Go.Proofs.YbulkchuuGreatDoor
