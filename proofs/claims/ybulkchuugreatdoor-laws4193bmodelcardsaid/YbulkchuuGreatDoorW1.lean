import Derived.Test.YbulkchuuGreatDoorC2
import Derived.ProofKit
import Derived.OpenShut
import Derived.ShutString
import Derived.ChangeOld
import Derived.Deep.Slices
import Derived.Deep.SlicePairs
namespace Go.Proofs.YbulkchuuGreatDoor
open Go.ChangeShapes Go.WideShapes Go.ChangeAt Go.RowKit
set_option linter.unusedVariables false
set_option linter.unusedSimpArgs false
set_option linter.unnecessarySimpa false
set_option maxRecDepth 100000

theorem own : ownKnob Ybaz.prog.godebug = none := by kernel_rfl
theorem laidOut : laidOutB Ybaz.prog = true := by kernel_rfl
theorem cells9 : Ybaz.prog.cellsOf 9 = 1 := by kernel_rfl
theorem cells5 : Ybaz.prog.cellsOf 5 = 1 := by kernel_rfl
theorem cells22 : Ybaz.prog.cellsOf 22 = 1 := by kernel_rfl
theorem cells54 : Ybaz.prog.cellsOf 54 = 1 := by kernel_rfl
theorem cells55 : Ybaz.prog.cellsOf 55 = 1 := by kernel_rfl
theorem cells56 : Ybaz.prog.cellsOf 56 = 1 := by kernel_rfl
theorem cells58 : Ybaz.prog.cellsOf 58 = 7 := by kernel_rfl
theorem cells122 : Ybaz.prog.cellsOf 122 = 2 := by kernel_rfl

section
variable {H : Type} {enc : TypeId × Value → H} {W : World} {held : Bool}
def Fits (l : List Nat) : Prop := ∀ x ∈ l, x ≤ reachBytes
theorem Fits.left {a b : List Nat} (h : Fits (a ++ b)) : Fits a := fun x hx => h x (List.mem_append_left _ hx)
theorem Fits.right {a b : List Nat} (h : Fits (a ++ b)) : Fits b := fun x hx => h x (List.mem_append_right _ hx)
theorem mem_weightsAll {e : TypeId} : ∀ {ds : List (DataW H)} {d : DataW H} {x : Nat}, d ∈ ds → x ∈ d.weights Ybaz.prog e → x ∈ DataW.weightsAll Ybaz.prog e ds
  | [], _, _, h, _ => by simp at h
  | d0 :: r, d, x, h, hx => by
    unfold DataW.weightsAll
    rcases List.mem_cons.1 h with rfl | h
    · exact List.mem_append_left _ hx
    · exact List.mem_append_right _ (mem_weightsAll h hx)
theorem fits_elem {t e : TypeId} (ht : Ybaz.prog.underlying t = some (.slice e)) {es sp : List (DataW H)} (h : Fits ((DataW.slice es sp).weights Ybaz.prog t)) {d : DataW H} (hd : d ∈ es) : Fits (d.weights Ybaz.prog e) := fun x hx => by
  unfold DataW.weights at h
  rw [ht] at h
  exact h x (List.mem_cons_of_mem _ (List.mem_append_left _ (mem_weightsAll hd hx)))
theorem open_str {fuel : Nat} {v : Value} {d : DataW H} {p : List MemPlace} (h : DataW.trod enc Ybaz.prog W 0 (fun _ => true) held fuel 9 [v] = some (d, p)) (hf : Fits (d.weights Ybaz.prog 9)) : ∃ s : ByteArray, v = .string s ∧ s.size ≤ 140737488351232 := by
  obtain ⟨s, e1, e2, _⟩ := DataW.trod_string Ybaz.underlying9 h
  injection e1 with e1
  injection e2 with e2 e3
  subst e2
  refine ⟨s, e1, ?_⟩
  have := hf s.data.toList.length (by simp [DataW.weights])
  show s.data.size ≤ _
  unfold reachBytes at this
  simpa using this
/-- a row of strings that came in -/
theorem open_strs {fuel : Nat} {v : Value} {d : DataW H} {p : List MemPlace} (h : DataW.trod enc Ybaz.prog W 0 (fun _ => true) held fuel 22 [v] = some (d, p)) (hf : Fits (d.weights Ybaz.prog 22)) : ∃ a n c f, v = .slice a n c ∧ StrRow W.heap.size a n f W := by
  rcases Go.Deep.open_slice1 Ybaz.underlying22 cells9 h with ⟨hcs, _⟩ | ⟨ad, l, cc, m, fu, V, Dd, Pl, hcs, _, hl, hm, hmm, hx0, hx⟩
  · injection hcs with hcs
    exact ⟨none, 0, 0, fun _ => ⟨#[]⟩, hcs, fun j hj => by omega⟩
  · injection hcs with hcs
    injection hx0 with hd hp
    have hm' : m = cc := by simpa using hmm
    have each : ∀ i, i < l → ∃ s : ByteArray, V i = .string s ∧ s.size ≤ 140737488351232 := fun i hi => by
      refine open_str (hx i (by omega)).2 (fits_elem Ybaz.underlying22 (by rw [← hd]; exact hf) ?_)
      exact List.mem_map.2 ⟨i, by simpa using hi, rfl⟩
    obtain ⟨f, hfs⟩ := Go.Deep.choose_lt each
    refine ⟨some ad, l, cc, f, hcs, fun j hj => ?_⟩
    obtain ⟨h1, _⟩ := hx j (by omega)
    obtain ⟨k1, k2⟩ := hfs j hj
    rw [k1] at h1
    obtain ⟨b0, off, spot⟩ := ad
    have hspot : spot = none := by
      have h00 := (hx 0 (by omega)).1
      simpa [Addr.add] using World.cell?_spot h00
    subst hspot
    rw [Go.WideShapes.add_plain] at h1
    exact ⟨b0, off, rfl, World.block_lt_of_cell? W _ h1, h1, k2⟩
/-- a row of small numbers that came in -/
theorem open_u8s {fuel : Nat} {v : Value} {d : DataW H × List MemPlace} (h : DataW.trod enc Ybaz.prog W 0 (fun _ => true) held fuel 54 [v] = some d) : ∃ a n c f, v = .slice a n c ∧ U8Row W.heap.size a n f W := by
  rcases open_ints Ybaz.underlying54 Ybaz.underlying5 cells5 h with ⟨hcs, _⟩ | ⟨ad, l, cc, zs, hcs, _, hl, hm, hz, _, hcell, hwz⟩
  · injection hcs with hcs
    exact ⟨none, 0, 0, fun _ => 0, hcs, fun j hj => by omega⟩
  · injection hcs with hcs
    have hz' : zs.length = cc := by simpa using hz
    refine ⟨some ad, l, cc, fun j => zs[j]?.getD 0, hcs, fun j hj => ?_⟩
    obtain ⟨b, off, rfl, hcc⟩ := ints_at hcell (by omega)
    have hr := range_u8 hwz j
    refine ⟨b, off, rfl, World.block_lt_of_cell? W _ (hcc j (by omega)), ?_, hr.1, hr.2⟩
    have := hcc j (by omega)
    simpa [List.getD] using this
/-- the listing that came in -/
theorem open_list {fuel : Nat} {v : Value} {d : DataW H} {p : List MemPlace} (h : DataW.trod enc Ybaz.prog W 0 (fun _ => true) held fuel 55 [v] = some (d, p)) (hf : Fits (d.weights Ybaz.prog 55)) :
    ∃ a n c, ∃ q : Nat → ByteArray × Option Addr × Nat × Nat × (Nat → Int), v = .slice a n c ∧ ∀ j, j < n → ∃ bb off, a = some ⟨bb, off, none⟩ ∧ bb < W.heap.size ∧ W.cell? ⟨bb, off + j * 2, none⟩ = some (.string (q j).1) ∧ W.cell? ⟨bb, off + j * 2 + 1, none⟩ = some (.slice (q j).2.1 (q j).2.2.1 (q j).2.2.2.1) ∧ (q j).1.size ≤ 140737488351232 ∧ U8Row W.heap.size (q j).2.1 (q j).2.2.1 (q j).2.2.2.2 W := by
  rcases Go.Deep.open_slice_pairs Ybaz.underlying55 Ybaz.underlying122 cells122 rfl rfl cells9 cells54 h with ⟨hcs, _⟩ | ⟨ad, l, cc, m, fu, V0, V1, D0, D1, P0, P1, hcs, _, hl, hm, hmm, hx0, hx⟩
  · injection hcs with hcs
    exact ⟨none, 0, 0, fun _ => (⟨#[]⟩, none, 0, 0, fun _ => 0), hcs, fun j hj => by omega⟩
  · injection hcs with hcs
    injection hx0 with hd hp
    have hm' : m = cc := by simpa using hmm
    have each : ∀ i, i < l → ∃ q : ByteArray × Option Addr × Nat × Nat × (Nat → Int), V0 i = .string q.1 ∧ q.1.size ≤ 140737488351232 ∧ V1 i = .slice q.2.1 q.2.2.1 q.2.2.2.1 ∧ U8Row W.heap.size q.2.1 q.2.2.1 q.2.2.2.2 W := fun i hi => by
      obtain ⟨_, _, t0, t1⟩ := hx i (by omega)
      have hfe := fits_elem (d := DataW.agg [D0 i, D1 i]) Ybaz.underlying55 (by rw [← hd]; exact hf) (List.mem_map.2 ⟨i, by simpa using hi, rfl⟩)
      have hf0 : Fits ((D0 i).weights Ybaz.prog 9) := by
        unfold DataW.weights at hfe
        rw [Ybaz.underlying122] at hfe
        simp only [List.map, DataW.weightsEach] at hfe
        exact hfe.left
      obtain ⟨s, e1, e2⟩ := open_str t0 hf0
      obtain ⟨a, n, c, f, e3, e4⟩ := open_u8s t1
      exact ⟨(s, a, n, c, f), e1, e2, e3, e4⟩
    obtain ⟨q, hq⟩ := Go.Deep.choose_lt each
    refine ⟨some ad, l, cc, q, hcs, fun j hj => ?_⟩
    obtain ⟨h1, h2, _, _⟩ := hx j (by omega)
    obtain ⟨k1, k2, k3, k4⟩ := hq j hj
    rw [k1] at h1
    rw [k3] at h2
    obtain ⟨b0, off, spot⟩ := ad
    have hspot : spot = none := by
      have h00 := (hx 0 (by omega)).1
      simpa [Addr.add] using World.cell?_spot h00
    subst hspot
    rw [Go.WideShapes.add_plain] at h1 h2
    exact ⟨b0, off, rfl, World.block_lt_of_cell? W _ h1, h1, by rw [Nat.add_assoc]; exact h2, k2, k4⟩
theorem open_within {fuel : Nat} {v : Value} {d : DataW H} {p : List MemPlace} (h : DataW.trod enc Ybaz.prog W 0 (fun _ => true) held fuel 56 [v] = some (d, p)) :
    ∃ a n c, ∃ q : Nat → Option Addr × Nat × Nat × (Nat → Int), v = .slice a n c ∧ ∀ j, j < n → ∃ bb off, a = some ⟨bb, off, none⟩ ∧ bb < W.heap.size ∧ W.cell? ⟨bb, off + j, none⟩ = some (.slice (q j).1 (q j).2.1 (q j).2.2.1) ∧ U8Row W.heap.size (q j).1 (q j).2.1 (q j).2.2.2 W := by
  rcases Go.Deep.open_slice1 Ybaz.underlying56 cells54 h with ⟨hcs, _⟩ | ⟨ad, l, cc, m, fu, V, Dd, Pl, hcs, _, hl, hm, hmm, hx0, hx⟩
  · injection hcs with hcs
    exact ⟨none, 0, 0, fun _ => (none, 0, 0, fun _ => 0), hcs, fun j hj => by omega⟩
  · injection hcs with hcs
    have hm' : m = cc := by simpa using hmm
    have each : ∀ i, i < l → ∃ q : Option Addr × Nat × Nat × (Nat → Int), V i = .slice q.1 q.2.1 q.2.2.1 ∧ U8Row W.heap.size q.1 q.2.1 q.2.2.2 W := fun i hi => by
      obtain ⟨a, n, c, f, e3, e4⟩ := open_u8s (hx i (by omega)).2
      exact ⟨(a, n, c, f), e3, e4⟩
    obtain ⟨q, hq⟩ := Go.Deep.choose_lt each
    refine ⟨some ad, l, cc, q, hcs, fun j hj => ?_⟩
    obtain ⟨h1, _⟩ := hx j (by omega)
    obtain ⟨k1, k2⟩ := hq j hj
    rw [k1] at h1
    obtain ⟨b0, off, spot⟩ := ad
    have hspot : spot = none := by
      have h00 := (hx 0 (by omega)).1
      simpa [Addr.add] using World.cell?_spot h00
    subst hspot
    rw [Go.WideShapes.add_plain] at h1
    exact ⟨b0, off, rfl, World.block_lt_of_cell? W _ h1, h1, k2⟩
theorem list7 {α : Type} (l : List α) (h : l.length = 7) : ∃ a0 a1 a2 a3 a4 a5 a6, l = [a0, a1, a2, a3, a4, a5, a6] := by
  match l, h with
  | [a0, a1, a2, a3, a4, a5, a6], _ => exact ⟨a0, a1, a2, a3, a4, a5, a6, rfl⟩
/-- a given file that came in -/
theorem open58 {v : Value} {d : DataW H} {p : List MemPlace} (h : DataW.Trod enc Ybaz.prog W 0 (fun _ => true) held 58 v d p) (hf : Fits (d.weights Ybaz.prog 58)) : ∃ D : DIn, v = .agg D.cells ∧ InD W.heap.size D W := by
  obtain ⟨fuel, hd⟩ := h
  obtain ⟨xs, n, _, hx, hl, hxl, hfl⟩ := DataW.trod_struct Ybaz.underlying58 hd
  rw [cells58] at hl
  obtain ⟨c0, c1, c2, c3, c4, c5, c6, hc⟩ := list7 _ hl
  obtain ⟨x0, x1, x2, x3, x4, x5, x6, rfl⟩ := list7 xs hxl
  have k0 := hfl 0 _ rfl; have k1 := hfl 1 _ rfl; have k2 := hfl 2 _ rfl; have k3 := hfl 3 _ rfl; have k4 := hfl 4 _ rfl; have k5 := hfl 5 _ rfl; have k6 := hfl 6 _ rfl
  rw [hc] at k0 k1 k2 k3 k4 k5 k6
  simp only [cells22, cells54, cells5, cells55, cells56, List.drop, List.take, List.getElem?_cons_zero, List.getElem?_cons_succ] at k0 k1 k2 k3 k4 k5 k6
  injection hx with hx1 hx2
  subst hx1
  have hff : Fits ((x0.1.weights Ybaz.prog 22) ++ ((x1.1.weights Ybaz.prog 22) ++ ((x2.1.weights Ybaz.prog 54) ++ ((x3.1.weights Ybaz.prog 22) ++ ((x4.1.weights Ybaz.prog 5) ++ ((x5.1.weights Ybaz.prog 55) ++ ((x6.1.weights Ybaz.prog 56) ++ []))))))) := by
    have h2 := hf
    unfold DataW.weights at h2
    rw [Ybaz.underlying58] at h2
    simpa only [List.map, DataW.weightsEach] using h2
  obtain ⟨ra, rn, rc, repo, e0, r0⟩ := open_strs k0 hff.left
  obtain ⟨ua, un, uc, user, e1, r1⟩ := open_strs k1 hff.right.left
  obtain ⟨ga, gn, gc, grp, e2, r2⟩ := open_u8s k2
  obtain ⟨na, nn, nc, named, e3, r3⟩ := open_strs k3 hff.right.right.right.left
  obtain ⟨ng, e4, _, hw4⟩ := DataW.trod_int Ybaz.underlying5 k4
  obtain ⟨la, ln, lc, lq, e5, r5⟩ := open_list k5 hff.right.right.right.right.right.left
  obtain ⟨wa, wn, wc, wq, e6, r6⟩ := open_within k6
  injection e4 with e4
  have hb := bounds_u8 hw4
  refine ⟨⟨ra, rn, rc, repo, ua, un, uc, user, ga, gn, gc, grp, na, nn, nc, named, ng, la, ln, lc, fun j => (lq j).1, fun j => (lq j).2.1, fun j => (lq j).2.2.1, fun j => (lq j).2.2.2.1, fun j => (lq j).2.2.2.2, wa, wn, wc, fun j => (wq j).1, fun j => (wq j).2.1, fun j => (wq j).2.2.1, fun j => (wq j).2.2.2⟩, ?_, ⟨r0, r1, r2, r3, by simp only; omega, r5, r6⟩⟩
  subst e0 e1 e2 e3 e4 e5 e6
  cases v with
  | agg cs =>
    have : cs.toList = _ := hc
    unfold DIn.cells
    congr 1
    exact Array.toList_inj.1 this
  | _ => simp [Value.cells] at hc
end
end Go.Proofs.YbulkchuuGreatDoor
