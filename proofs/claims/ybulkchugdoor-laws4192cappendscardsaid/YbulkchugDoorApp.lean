import Derived.Test.YbulkchugDoorRows
import Derived.WalkKit
import Derived.RegionTactic
import Derived.WalkLawsBesides
import Derived.Lib.Builder
import Derived.Lib.AppendStr
import Derived.Shelf.Strings.Builder1
namespace Go.Proofs.YbulkchugDoor
open Go.RowKit
set_option linter.unusedVariables false
set_option linter.unusedSimpArgs false
set_option maxRecDepth 100000

theorem info5 : (Ybad.prog.info? 5).map (fun i => (i.zero, i.size, i.bytes)) = some (some (.int .u8 0), 1, 1) := by kernel_rfl
theorem info42 : (Ybad.prog.info? 42).map (·.size) = some 2 := by kernel_rfl
theorem lies42 : liesAt Ybad.prog Ybad.prog.depth 42 (2 / Ybad.prog.cellsOf 42) 0 42 1 = true := by kernel_rfl

section
variable {P : Program} (w : World)

/-- where the row lies behind an append of at least one element: where it lay, or in a new block -/
theorem append_block (base : Nat) (t ty e : TypeId) (i : TypeInfo) (z : Value) (size bytes : Nat) (ht : P.underlying t = some (.slice e)) (hi : P.info? e = some i) (hz : i.zero = some z)
    (hsize : i.size = size) (hby : i.bytes = bytes)
    (v : Value) (n : Nat) (xs : List Value) (hown : w.ownsRow base e size v n xs)
    (a : Addr) (m c : Nat) (news : List Value) (hl : news.length = m * size) (hnews : ∀ j u, news[j]? = some u → w.cell? (a.add j) = some u) (h1 : ∀ u ∈ news, u.oneCell' = true)
    (h63 : n + m ≤ maxLen) (hbytes : (n + m) * bytes ≤ 140737488355328) (hm : 0 < m) {v' : Value} {w' : World}
    (hr : (Builtin.append_ #[t, t] ty #[v, .slice (some a) m c]).run P w = .ok v' w') : v'.ownBlock = v.ownBlock ∨ v'.ownBlock = some w.heap.size := by
  subst hsize
  subst hby
  have hsmall : n + m ≤ 9223372036854775807 := by simp only [maxLen] at h63; omega
  rcases hown.2 with ⟨rfl, rfl⟩ | ⟨g, cap, cur, rfl, hbg, hg, hnc, hcm, hcs, htake⟩
  · have hr2 := run_append_nil (P := P) w t ty e i z ht hi hz a m c news hl hnews hm (by omega) (by have hb := hbytes; simp only [Nat.zero_add] at hb; omega)
    rw [hr2] at hr
    injection hr with hv _
    subst hv
    exact .inr rfl
  · by_cases hroom : n + m ≤ cap
    · have hfit : n * i.size + news.length ≤ cur.size := by rw [hl, hcs, ← Nat.add_mul]; exact Nat.mul_le_mul_right _ hroom
      have hr2 := run_append_room (P := P) w t ty e i ht hi g n cap cur hg a m c news hl hnews h1 hroom hfit
      rw [hr2] at hr
      injection hr with hv _
      subst hv
      exact .inl rfl
    · have holds : ∀ j u, xs[j]? = some u → w.cell? ((⟨g, 0, none⟩ : Addr).add j) = some u := hown.cells (g := g) rfl
      have hr2 := run_append_grow (P := P) w t ty e i z ht hi hz ⟨g, 0, none⟩ n cap xs hown.1 holds a m c news hl hnews (by omega) (by omega) (growslice_fits (by omega) hbytes)
      rw [hr2] at hr
      injection hr with hv _
      subst hv
      exact .inr rfl

/-- the append's law with the row's place told -/
theorem wpList_append_own2 {ops : Array Oper} {rest : List Oper} {o : Oper} {a : Act} {Q : Exit → Act → World → Prop} (hgd : o.guard = none) (s x : Operand) (t : TypeId)
    (ho : o.op = .call { callee := .builtin .append, args := #[s, x], argTypes := #[t, t] })
    (base : Nat) (e : TypeId) (i : TypeInfo) (z : Value) (size bytes : Nat) (ht : P.underlying t = some (.slice e)) (hi : P.info? e = some i) (hz : i.zero = some z)
    (hsize : i.size = size) (hby : i.bytes = bytes) (hzs : z.cells.size = size) (hsz : 0 < size)
    (v : Value) (n : Nat) (xs : List Value) (hs : a.eval s = v) (hown : w.ownsRow base e size v n xs)
    (ad : Addr) (m c : Nat) (news : List Value) (hx : a.eval x = .slice (some ad) m c) (hl : news.length = m * size) (hnews : ∀ j u, news[j]? = some u → w.cell? (ad.add j) = some u) (h1 : ∀ u ∈ news, u.oneCell' = true)
    (h63 : n + m ≤ maxLen) (hbytes : (n + m) * bytes ≤ 140737488355328) (hbase : base ≤ w.heap.size) (hm : 0 < m)
    (h : ∀ v' w', w'.ownsRow base e size v' (n + m) (xs ++ news) → w.grownBy w' v.ownBlock → (v'.ownBlock = v.ownBlock ∨ v'.ownBlock = some w.heap.size) → wpList P ops Q rest (a.put o.dst v') w') : wpList P ops Q (o :: rest) a w := by
  refine wpList_plain hgd fun K hK => ?_
  obtain ⟨v', w', hr, h2, h3, h4⟩ := run_append_own (P := P) w base t o.type e i z size bytes ht hi hz hsize hby hzs hsz v n xs hown ad m c news hl hnews h1 h63 hbytes hbase
  have h5 := append_block (P := P) w base t o.type e i z size bytes ht hi hz hsize hby v n xs hown ad m c news hl hnews h1 h63 hbytes hm hr
  unfold Oper.wp execOp
  simp only [ho, resolve, invoke, builtin, Sem.run_bind, Sem.run_pure, Result.andThen_ok, List.map_toArray, List.map_cons, List.map_nil, hs, hx, hr]
  exact hK _ _ (h v' w' h2 h3 h5)
end

/-- a builder that has been written to (its own address lies in it), in block b; its bytes bs lie in the row v -/
def Bld (B b : Nat) (bs : List Value) (v : Value) (w : World) : Prop :=
  B ≤ b ∧ w.heap[b]? = some (.cells #[.pointer (some ⟨b, 0, none⟩), v] 42 (0, 0)) ∧ w.ownsRow B 5 1 v bs.length bs ∧ v.ownBlock ≠ some b ∧ (bs = [] → v = .slice none 0 0)

/-- a builder and, beside it, a row of bytes of the call's own, in block g -/
def Two (B b : Nat) (bs : List Value) (u : Value) (ys : List Value) (w : World) : Prop :=
  ∃ v, Bld B b bs v w ∧ w.ownsRow B 5 1 u ys.length ys ∧ ∃ gu, u.ownBlock = some gu ∧ gu ≠ b ∧ v.ownBlock ≠ some gu

theorem Two.lt {B b : Nat} {bs ys : List Value} {u : Value} {w : World} (h : Two B b bs u ys w) : B ≤ b ∧ b < w.heap.size := by
  obtain ⟨v, ⟨hB, hb, _⟩, _⟩ := h
  exact ⟨hB, (Array.getElem?_eq_some_iff.1 hb).1⟩

theorem Two.drew {B b : Nat} {bs ys : List Value} {u : Value} {w : World} (h : Two B b bs u ys w) : Two B b bs u ys w.drew := h

theorem Two.alloc {B b : Nat} {bs ys : List Value} {u : Value} {w : World} (h : Two B b bs u ys w) (o : Obj) : Two B b bs u ys (w.alloc o) := by
  have hl := h.lt
  obtain ⟨v, ⟨hB, hb, ho, hne, hn⟩, hu, hg⟩ := h
  exact ⟨v, ⟨hB, (Lib.alloc_old w o b hl.2).trans hb, ho.alloc o, hne, hn⟩, hu.alloc o, hg⟩

/-- a store into a block above the call's own that is none of the three: a block laid later -/
theorem Two.setCell {B b : Nat} {bs ys : List Value} {u : Value} {w : World} (h : Two B b bs u ys w) (k j : Nat) (x : Value) (T : TypeId) (cs : Array Value) (hk : w.heap[k]? = some (.cells cs T (0, 0))) (hT : T ≠ 42) (hT5 : T ≠ 5) : Two B b bs u ys (w.setCell ⟨k, j, none⟩ x) := by
  obtain ⟨v, ⟨hB, hb, ho, hne, hn⟩, hu, gu, hg1, hg2, hg3⟩ := h
  have hkb : b ≠ k := by
    intro e; subst e; rw [hb] at hk; simp at hk; exact hT hk.2.symm
  have hgr : w.grownBy (w.setCell ⟨k, j, none⟩ x) (some k) := ⟨rfl, rfl, rfl, by simp [World.setCell], fun i _ hi => Below.heap_setCell _ _ _ _ (fun e => hi (by simp [e]))⟩
  have hv : v.ownBlock ≠ some k := Lib.ownBlock_ne ho hk hT5
  have hu' : u.ownBlock ≠ some k := Lib.ownBlock_ne hu hk hT5
  exact ⟨v, ⟨hB, by rw [Below.heap_setCell _ _ _ _ hkb]; exact hb, ho.kept hgr (.inr hv), hne, hn⟩, hu.kept hgr (.inr hu'), gu, hg1, hg2, hg3⟩

theorem cell_one (w : World) (x : Value) (t : TypeId) : ∀ j u, [x][j]? = some u → (w.alloc (.cells #[x] t)).cell? ((⟨w.heap.size, 0, none⟩ : Addr).add j) = some u := by
  intro j u hj
  match j, hj with
  | 0, hj => simp at hj; subst hj; simp [Addr.add]

theorem cell_two (w : World) (x y : Value) (t : TypeId) : ∀ j u, [x, y][j]? = some u → (w.alloc (.cells #[x, y] t)).cell? ((⟨w.heap.size, 0, none⟩ : Addr).add j) = some u := by
  intro j u hj
  match j, hj with
  | 0, hj => simp at hj; subst hj; simp [Addr.add]
  | 1, hj => simp at hj; subst hj; simp [Addr.add]

/-- copyCheck at a builder that has been written to: nothing -/
theorem copyCheck_used (b : Nat) (w : World) (h0 : w.cell? ⟨b, 0, none⟩ = some (.pointer (some ⟨b, 0, none⟩))) :
    Calls Ybad.prog 17 #[.pointer (some ⟨b, 0, none⟩)] w fun e w' => e = .returned (.tuple #[]) ∧ w' = w := by
  obtain ⟨j, hj, hjs⟩ := Option.map_eq_some_iff.1 info42
  have hpe := fun (wx : World) (ad : Addr) => Lib.run_neq_ptr_same (P := Ybad.prog) wx (tp := 40) ad Ybad.underlying40 hj
  go_enter Ybad.func17, Ybad.ntmps17
  go_wp2
  go_end0
  exact ⟨rfl, rfl⟩

/-- the shelf's numbers, in this program -/
def ren17 : Go.Shelf.Ren := ⟨fun | 240 => 17 | 276 => 21 | n => n, fun | 0 => 0 | 4 => 4 | 9 => 9 | 20 => 20 | 70 => 40 | 72 => 42 | 37 => 39 | 164 => 80 | n => n, fun | n => n⟩
theorem lays17 : Lays.n240 Ybad.prog ren17 := {
  mixed := by kernel_rfl
  f240 := Ybad.func17.trans (congrArg some (by kernel_rfl))
  f276 := Ybad.func21.trans (congrArg some (by kernel_rfl))
  t0 := Ybad.underlying0
  a0 := Ybad.isAgg0
  z0 := Ybad.sizeOf0
  v0 := Ybad.zeroValue0
  t4 := Ybad.underlying4
  a4 := Ybad.isAgg4
  z4 := Ybad.sizeOf4
  v4 := Ybad.zeroValue4
  t9 := Ybad.underlying9
  a9 := Ybad.isAgg9
  z9 := Ybad.sizeOf9
  v9 := Ybad.zeroValue9
  t20 := Ybad.underlying20
  a20 := Ybad.isAgg20
  z20 := Ybad.sizeOf20
  v20 := Ybad.zeroValue20
  t70 := Ybad.underlying40
  a70 := Ybad.isAgg40
  z70 := Ybad.sizeOf40
  v70 := Ybad.zeroValue40
  t72 := Ybad.underlying42
  a72 := Ybad.isAgg42
  z72 := Ybad.sizeOf42
  v72 := Ybad.zeroValue42
  t164 := Ybad.underlying80
  a164 := Ybad.isAgg80
  z164 := Ybad.sizeOf80
  v164 := Ybad.zeroValue80 }
/-- copyCheck at a fresh builder: its own address is laid in it -/
theorem copyCheck_fresh (b : Nat) (w : World) (h0 : w.cell? ⟨b, 0, none⟩ = some (.pointer none)) (hsh : w.shape? b = some (42, 2)) (hfz : w.frozen? ⟨b, 0, none⟩ = false) :
    Calls Ybad.prog 17 #[.pointer (some ⟨b, 0, none⟩)] w fun e w' => e = .returned (.tuple #[]) ∧ w' = w.setCell ⟨b, 0, none⟩ (.pointer (some ⟨b, 0, none⟩)) :=
  Any.Builder_copyCheck_fresh lays17 { sizeBuilder := info42, liesBuilder := lies42 } b w h0 hsh hfz

set_option maxHeartbeats 1000000 in
/-- WriteByte beside a row of bytes of the call's own -/
theorem writeByte_two (B b : Nat) (bs ys : List Value) (u : Value) (c : Int) (w : World) (h : Two B b bs u ys w) (hlen : bs.length + 1 ≤ 140737488355328) :
    Calls Ybad.prog 18 #[.pointer (some ⟨b, 0, none⟩), .int .u8 c] w fun e w' => e = .returned .nilIface ∧ Two B b (bs ++ [.int .u8 c]) u ys w' ∧ Below B w w' := by
  have hl := h.lt
  obtain ⟨v, ⟨hB, hb, ho, hne, hn⟩, hu, gu, hg1, hg2, hg3⟩ := h
  obtain ⟨i0, hi, hz0, hz1, hz2⟩ := info_parts info5
  have c0 : w.cell? ⟨b, 0, none⟩ = some (.pointer (some ⟨b, 0, none⟩)) := by rw [Lib.cell_of_heap hb]; rfl
  have c1 : w.cell? ⟨b, 1, none⟩ = some v := by rw [Lib.cell_of_heap hb]; rfl
  have hul := hu.lt gu hg1
  go_enter Ybad.func18, Ybad.ntmps18
  go_wp2_with (go_at_call 17; refine (copyCheck_used b _ c0).mono ?_)
  rintro e w1 ⟨rfl, rfl⟩
  go_wp2_with (at_builtin; refine wpList_append_own2 _ rfl _ _ 39 rfl B 5 i0 (.int .u8 0) 1 1 Ybad.underlying39 hi hz0 hz1 hz2 rfl (by decide) _ _ _ rfl (ho.alloc _) ⟨w1.heap.size, 0, none⟩ 1 1 [.int .u8 c] rfl rfl ?c1 ?c2 ?c3 ?c4 ?c5 (by decide) ?_)
  case c1 => exact cell_one _ _ _
  case c2 => intro u hu; simp at hu; subst hu; rfl
  case c3 => unfold maxLen; omega
  case c4 => omega
  case c5 => simp; omega
  intro v' w2 hown' hgrow hblk
  have hb2 : w2.heap[b]? = some (.cells #[.pointer (some ⟨b, 0, none⟩), v] 42 (0, 0)) := by
    rw [hgrow.block b (by simp; omega) (fun e => hne e.symm), Lib.alloc_old w1 _ b hl.2]
    exact hb
  have d0 : w2.cell? ⟨b, 0, none⟩ = some (.pointer (some ⟨b, 0, none⟩)) := by rw [Lib.cell_of_heap hb2]; rfl
  have d1 : w2.cell? ⟨b, 1, none⟩ = some v := by rw [Lib.cell_of_heap hb2]; rfl
  have f1 : w2.frozen? ⟨b, 1, none⟩ = false := Lib.frozen_of_heap hb2 1
  have hex : ∃ g cap, v' = .slice (some ⟨g, 0, none⟩) (bs.length + 1) cap := by
    rcases hown'.2 with ⟨_, h0⟩ | ⟨g, cap, cur, hv, _⟩
    · omega
    · exact ⟨g, cap, hv⟩
  obtain ⟨g, cap, rfl⟩ := hex
  have hvb : (Value.slice (some ⟨g, 0, none⟩) (bs.length + 1) cap).ownBlock ≠ some gu := by
    rcases hblk with e | e
    · rw [e]; exact hg3
    · rw [e]; intro e2; injection e2 with e2; omega
  go_wp2
  go_ret
  have hgs : w2.grownBy (w2.setCell ⟨b, 1, none⟩ (.slice (some ⟨g, 0, none⟩) (bs.length + 1) cap)) (some b) := ⟨rfl, rfl, rfl, by simp [World.setCell], fun i _ hi => Below.heap_setCell _ _ _ _ (fun e => hi (by simp [e]))⟩
  have hne' : (Value.slice (some ⟨g, 0, none⟩) (bs.length + 1) cap).ownBlock ≠ some b := Lib.ownBlock_ne hown' hb2 (by decide)
  refine ⟨rfl, ⟨_, ⟨hB, ?_, ?_, hne', by simp⟩, ?_, gu, hg1, hg2, hvb⟩, ?_⟩
  · simp [World.setCell, Array.getElem?_modify, hb2]
  · have := hown'.kept hgs (.inr hne')
    simpa using this
  · exact (((hu.alloc _).kept hgrow (.inr (by rw [hg1]; exact fun e => hg3 e.symm)))).kept hgs (.inr (by rw [hg1]; simpa using hg2))
  · exact ((((Below.refl B w1).alloc (by omega) _).grown hgrow (by simp; omega) (fun k hk => (ho.lt k hk).1))).setCell (p := ⟨b, 1, none⟩) hB _

set_option maxHeartbeats 1000000 in
/-- WriteString at a fresh builder -/
theorem writeString_fresh (b : Nat) (s : ByteArray) (w : World) (hb : w.heap[b]? = some (.cells #[.pointer none, .slice none 0 0] 42 (0, 0))) (hlen : s.size ≤ 140737488355328) :
    Calls Ybad.prog 9 #[.pointer (some ⟨b, 0, none⟩), .string s] w fun e w' => e = .returned (.tuple #[.int .i64 s.size, .nilIface]) ∧ (∃ v, Bld b b (Lib.strCells s) v w') ∧ Below b w w' ∧ b < w'.heap.size := by
  have hlt : b < w.heap.size := (Array.getElem?_eq_some_iff.1 hb).1
  obtain ⟨i0, hi, hz0, hz1, hz2⟩ := info_parts info5
  have c0 : w.cell? ⟨b, 0, none⟩ = some (.pointer none) := by rw [Lib.cell_of_heap hb]; rfl
  have hsh : w.shape? b = some (42, 2) := by simp [World.shape?, hb]
  have hfz : w.frozen? ⟨b, 0, none⟩ = false := Lib.frozen_of_heap hb 0
  go_enter Ybad.func9, Ybad.ntmps9
  go_wp2_with (go_at_call 17; refine (copyCheck_fresh b _ c0 hsh hfz).mono ?_)
  rintro e w1 ⟨rfl, hw1⟩
  have hb1 : w1.heap[b]? = some (.cells #[.pointer (some ⟨b, 0, none⟩), .slice none 0 0] 42 (0, 0)) := by
    rw [hw1]; simp [World.setCell, Array.getElem?_modify, hb]
  have hbel : Below b w w1 := by rw [hw1]; exact (Below.refl b w).setCell (Nat.le_refl _) _
  have hlt1 : b < w1.heap.size := (Array.getElem?_eq_some_iff.1 hb1).1
  clear hw1 c0 hsh hfz
  have e1 : w1.cell? ⟨b, 1, none⟩ = some (.slice none 0 0) := by rw [Lib.cell_of_heap hb1]; rfl
  go_wp2_with (at_builtin; refine Lib.wpList_append_own_string _ rfl _ _ 39 9 rfl b 5 i0 Ybad.underlying39 Ybad.underlying9 hi hz0 hz1 hz2 _ _ _ rfl (World.ownsRow_nil w1 b 5 1) s rfl ?c3 ?c4 ?c5 ?_)
  case c3 => unfold maxLen; omega
  case c4 => omega
  case c5 => omega
  intro v' w2 hown' hgrow hnil
  have hb2 : w2.heap[b]? = some (.cells #[.pointer (some ⟨b, 0, none⟩), .slice none 0 0] 42 (0, 0)) := by
    rw [hgrow.block b hlt1 (by simp [Value.ownBlock])]
    exact hb1
  have d0 : w2.cell? ⟨b, 0, none⟩ = some (.pointer (some ⟨b, 0, none⟩)) := by rw [Lib.cell_of_heap hb2]; rfl
  have d1 : w2.cell? ⟨b, 1, none⟩ = some (.slice none 0 0) := by rw [Lib.cell_of_heap hb2]; rfl
  have f1 : w2.frozen? ⟨b, 1, none⟩ = false := Lib.frozen_of_heap hb2 1
  have hex : ∃ ao n' cap, v' = .slice ao n' cap := by
    rcases hown'.2 with ⟨hv, _⟩ | ⟨g, cap, cur, hv, _⟩
    · exact ⟨_, _, _, hv⟩
    · exact ⟨_, _, _, hv⟩
  obtain ⟨ao, n', cap, rfl⟩ := hex
  go_wp2
  go_ret2
  have hgs : w2.grownBy (w2.setCell ⟨b, 1, none⟩ (.slice ao n' cap)) (some b) := ⟨rfl, rfl, rfl, by simp [World.setCell], fun i _ hi => Below.heap_setCell _ _ _ _ (fun e => hi (by simp [e]))⟩
  have hne' : (Value.slice ao n' cap).ownBlock ≠ some b := Lib.ownBlock_ne hown' hb2 (by decide)
  refine ⟨rfl, ⟨_, Nat.le_refl _, ?_, ?_, hne', ?_⟩, ?_, ?_⟩
  · simp [World.setCell, Array.getElem?_modify, hb2]
  · have := hown'.kept hgs (.inr hne')
    simpa [Lib.strCells_length] using this
  · intro h0
    refine hnil.2 ?_
    apply ByteArray.size_eq_zero_iff.1
    rw [← Lib.strCells_length, h0]; rfl
  · exact (hbel.grown hgrow (by omega) (fun k hk => by simp [Value.ownBlock] at hk)).setCell (p := ⟨b, 1, none⟩) (Nat.le_refl _) _
  · have := (Array.getElem?_eq_some_iff.1 hb2).1
    simpa [World.setCell] using this

theorem heap_freeze (w : World) (p : Addr) (n k : Nat) (h : k ≠ p.block) : (w.freeze p n).heap[k]? = w.heap[k]? := by
  unfold World.freeze
  split
  · rfl
  · simp only [Array.getElem?_modify]
    rw [if_neg (by omega)]

theorem cells5 : Ybad.prog.cellsOf 5 = 1 := by kernel_rfl

/-- a run of what a builtin does, the builtin told by its number in the model's list (20, 21: the two that Builder.String calls) -/
theorem bin {X : Sem Value} {P : Program} {w : World} {r : Result Value} (B : Sem Next) (hB : B = (do pure (.value (← X)))) (h : X.run P w = r) : X.run P w = r := h

set_option maxHeartbeats 1000000 in
/-- String, beside a row of bytes of the call's own -/
theorem string_two (B b : Nat) (l : List UInt8) (ys : List Value) (u : Value) (w : World) (h : Two B b (Lib.byteCells l) u ys w) :
    Calls Ybad.prog 13 #[.pointer (some ⟨b, 0, none⟩)] w fun e w' => e = .returned (.string ⟨l.toArray⟩) ∧ Below B w w' ∧ (∀ gu, u.ownBlock = some gu → w'.heap[gu]? = w.heap[gu]?) := by
  have hl := h.lt
  obtain ⟨v, ⟨hB, hb, ho, hne, hn⟩, hu, gu, hg1, hg2, hg3⟩ := h
  have c1 : w.drew.cell? ⟨b, 1, none⟩ = some v := by
    have : w.drew.heap[b]? = some (.cells #[.pointer (some ⟨b, 0, none⟩), v] 42 (0, 0)) := hb
    rw [Lib.cell_of_heap this]; rfl
  by_cases h0 : l = []
  · subst h0
    obtain rfl := hn rfl
    have hUS := fun wx : World => bin (P := Ybad.prog) (w := wx) (r := .ok (.string .empty) wx) (builtin (Builtin.ofNat 21) #[74, 3] 9 #[] #[.pointer none, .int .i64 0]) rfl (by
      have hmax : IntKind.i64.max = 9223372036854775807 := rfl
      show Sem.run _ ((do
        let n ← asInt (.int .i64 0)
        if n < 0 then runtimePanic _
        if n > IntKind.i64.max then unsupported _
        if n = 0 then pure (.string .empty)
        else runtimePanic _) : Sem Value) _ = _
      simp [asInt, asIntOf, hmax])
    have hSD := bin (P := Ybad.prog) (w := w.drew) (r := .ok (.pointer none) w.drew) (builtin (Builtin.ofNat 20) #[39] 74 #[] #[.slice none 0 0]) rfl rfl
    go_enter Ybad.func13, Ybad.ntmps13
    go_wp2
    go_region
    all_goals (go_wp2; go_ret; exact ⟨rfl, Below.drew (Below.refl B w), fun _ _ => rfl⟩)
  · have hl0 : l.length ≠ 0 := by simpa using h0
    rw [Lib.byteCells_length] at ho
    have hex : ∃ g cap cur, v = .slice (some ⟨g, 0, none⟩) l.length cap ∧ B ≤ g ∧ w.heap[g]? = some (.cells cur 5 (0, 0)) ∧ l.length ≤ cap ∧ cap ≤ maxLen ∧ cur.size = cap * 1 := by
      rcases ho.2 with ⟨_, hz⟩ | ⟨g, cap, cur, hv, r1, r2, r3, r4, r5, r6⟩
      · exact absurd hz hl0
      · exact ⟨g, cap, cur, hv, r1, r2, r3, r4, r5⟩
    obtain ⟨g, cap, cur, rfl, hbg, hg, hnc, hcm, hcs⟩ := hex
    have hSD := bin (P := Ybad.prog) (w := w.drew) (r := .ok (.pointer (some ⟨g, 0, none⟩)) w.drew) (builtin (Builtin.ofNat 20) #[39] 74 #[] #[.slice (some ⟨g, 0, none⟩) l.length cap]) rfl (by
      obtain ⟨k, rfl⟩ : ∃ k, cap = k + 1 := ⟨cap - 1, by omega⟩
      rfl)
    have hUS := bin (P := Ybad.prog) (w := w.drew) (r := .ok (.string ⟨l.toArray⟩) (w.drew.freeze ⟨g, 0, none⟩ l.length)) (builtin (Builtin.ofNat 21) #[74, 3] 9 #[] #[.pointer (some ⟨g, 0, none⟩), .int .i64 l.length]) rfl (by
      have hg' : w.drew.heap[g]? = some (.cells cur 5 (0, 0)) := hg
      have hsh : w.drew.shape? g = some (5, cur.size) := by simp [World.shape?, hg']
      have hlb := Lib.run_loadBytes (P := Ybad.prog) w.drew l ⟨g, 0, none⟩ .empty (fun j x hx => ho.cells (g := g) rfl j (.int .u8 x.toNat) (by simp [Lib.byteCells, hx]))
      have hlies := Lib.liesAt_bytes (P := Ybad.prog) cells5 (cur.size / Ybad.prog.cellsOf 5) l.length (by rw [cells5]; simp; omega)
      have h63' : ¬ (9223372036854775807 : Int) < (l.length : Int) := by unfold maxLen at hcm; omega
      have hmax : IntKind.i64.max = 9223372036854775807 := rfl
      have hneg : ¬ (l.length : Int) < 0 := by omega
      show Sem.run _ ((do
        let n ← asInt (.int .i64 l.length)
        if n < 0 then runtimePanic _
        if n > IntKind.i64.max then unsupported _
        if n = 0 then pure (.string .empty)
        else if ← variablesAt ⟨g, 0, none⟩ (← elemOf 74) n.toNat then do
          let s ← loadBytes ⟨g, 0, none⟩ .empty n.toNat
          freeze ⟨g, 0, none⟩ n.toNat
          pure (.string s)
        else unsupported _) : Sem Value) _ = _
      simp [asInt, asIntOf, hmax, h63', hneg, hl0, variablesAt, hsh, elemOf, run_underlying Ybad.underlying74, hlies, hlb])
    clear h0 hl0
    go_enter Ybad.func13, Ybad.ntmps13
    go_wp2
    go_region
    all_goals (go_wp2; go_ret; refine ⟨rfl, Lib.below_freeze (Below.drew (Below.refl B w)) (p := ⟨g, 0, none⟩) hbg _, fun gu' hgu => ?_⟩)
    all_goals
      rw [hg1] at hgu
      injection hgu with hgu
      subst hgu
      exact heap_freeze w.drew ⟨g, 0, none⟩ l.length gu (fun e => hg3 (by simp [Value.ownBlock, e]))
end Go.Proofs.YbulkchugDoor
