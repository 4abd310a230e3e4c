import Derived.Test.YbulkchugDoorRows
import Derived.Handy
import Derived.WalkLawsBesides
import Derived.RegionTactic
import Derived.Deep.AppendSrc
namespace Go.Proofs.YbulkchugDoor.Pre
open Go.RowKit
set_option linter.unusedVariables false
set_option linter.unusedSimpArgs false
set_option maxRecDepth 100000

/-! ### frames -/
/-- all blocks but b1, b2 and the row r stand as they stood -/
def Fr (b1 b2 : Nat) (r : Option Nat) (w w' : World) : Prop :=
  w'.os = w.os ∧ w'.tape = w.tape ∧ w'.output = w.output ∧ w.heap.size ≤ w'.heap.size ∧ ∀ k, k < w.heap.size → k ≠ b1 → k ≠ b2 → some k ≠ r → w'.heap[k]? = w.heap[k]?
/-- the row has stayed where it was, or lies in a block that is new -/
def Next (w : World) (r r' : Option Nat) : Prop := r' = r ∨ ∃ k, r' = some k ∧ w.heap.size ≤ k

theorem Fr.refl (b1 b2 : Nat) (r : Option Nat) (w : World) : Fr b1 b2 r w w := ⟨rfl, rfl, rfl, Nat.le_refl _, fun _ _ _ _ _ => rfl⟩
theorem Next.refl (w : World) (r : Option Nat) : Next w r r := .inl rfl
theorem Fr.size {b1 b2 : Nat} {r : Option Nat} {w w' : World} (h : Fr b1 b2 r w w') : w.heap.size ≤ w'.heap.size := h.2.2.2.1
theorem Fr.trans {b1 b2 : Nat} {r r1 : Option Nat} {w w1 w2 : World} (h : Fr b1 b2 r w w1) (n : Next w r r1) (k : Fr b1 b2 r1 w1 w2) : Fr b1 b2 r w w2 := by
  obtain ⟨a1, a2, a3, a4, a5⟩ := h
  obtain ⟨c1, c2, c3, c4, c5⟩ := k
  refine ⟨c1.trans a1, c2.trans a2, c3.trans a3, Nat.le_trans a4 c4, fun i hi h1 h2 h3 => ?_⟩
  rw [c5 i (by omega) h1 h2 ?_, a5 i hi h1 h2 h3]
  rcases n with rfl | ⟨j, rfl, hj⟩
  · exact h3
  · intro e; injection e with e; omega
theorem Next.trans {w w1 : World} {r r1 r2 : Option Nat} (h : Next w r r1) (k : Next w1 r1 r2) (hs : w.heap.size ≤ w1.heap.size) : Next w r r2 := by
  rcases k with rfl | ⟨j, rfl, hj⟩
  · exact h
  · exact .inr ⟨j, rfl, by omega⟩
theorem Fr.of_below {b1 b2 : Nat} {r : Option Nat} {w w' : World} (h : Below w.heap.size w w') : Fr b1 b2 r w w' :=
  ⟨h.os, h.tape, h.output, h.size, fun k hk _ _ _ => h.block k hk⟩
theorem Fr.alloc {b1 b2 : Nat} {r : Option Nat} {w w' : World} (h : Fr b1 b2 r w w') (o : Obj) : Fr b1 b2 r w (w'.alloc o) := by
  obtain ⟨a1, a2, a3, a4, a5⟩ := h
  refine ⟨a1, a2, a3, by simp; omega, fun i hi h1 h2 h3 => ?_⟩
  rw [Below.heap_alloc _ _ _ (by omega)]; exact a5 i hi h1 h2 h3
theorem Fr.grown {b1 b2 : Nat} {r r1 : Option Nat} {w w' w2 : World} (h : Fr b1 b2 r w w') (n : Next w r r1) (hg : w'.grownBy w2 r1) : Fr b1 b2 r w w2 :=
  h.trans n ⟨hg.os, hg.tape, hg.output, hg.size, fun k hk _ _ h3 => hg.block k hk h3⟩
theorem Fr.setCell {b1 b2 : Nat} {r : Option Nat} {w w' : World} (h : Fr b1 b2 r w w') (k j : Nat) (v : Value) (hk : k = b1 ∨ k = b2 ∨ w.heap.size ≤ k) : Fr b1 b2 r w (w'.setCell ⟨k, j, none⟩ v) := by
  obtain ⟨a1, a2, a3, a4, a5⟩ := h
  refine ⟨a1, a2, a3, by simp [World.setCell]; omega, fun i hi h1 h2 h3 => ?_⟩
  rw [Below.heap_setCell _ _ _ _ (by rcases hk with rfl | rfl | hk <;> simp <;> omega)]; exact a5 i hi h1 h2 h3
theorem Fr.drew {b1 b2 : Nat} {r : Option Nat} {w w' : World} (h : Fr b1 b2 r w w') : Fr b1 b2 r w w'.drew := h
theorem Fr.below {b1 b2 B : Nat} {r : Option Nat} {w w' : World} (h : Fr b1 b2 r w w') (hB : B ≤ w.heap.size) (h1 : B ≤ b1) (h2 : B ≤ b2) (h3 : ∀ k, r = some k → B ≤ k) : Below B w w' := by
  obtain ⟨a1, a2, a3, a4, a5⟩ := h
  exact ⟨a1, a2, a3, a4, fun k hk => a5 k (by omega) (by omega) (by omega) (fun e => by have := h3 k e.symm; omega)⟩

theorem heap_lt {w : World} {b : Nat} {o : Obj} (h : w.heap[b]? = some o) : b < w.heap.size := (Array.getElem?_eq_some_iff.1 h).1
theorem cell_of {w : World} {b : Nat} {cs : Array Value} {T : TypeId} {fr : Nat × Nat} (hb : w.heap[b]? = some (.cells cs T fr)) (j : Nat) : w.cell? ⟨b, j, none⟩ = cs[j]? := by
  simp [World.cell?, hb]
theorem frozen_of {w : World} {b : Nat} {cs : Array Value} {T : TypeId} (hb : w.heap[b]? = some (.cells cs T (0, 0))) (j : Nat) : w.frozen? ⟨b, j, none⟩ = false := by
  simp [World.frozen?, hb]
theorem heap_set {w : World} {b : Nat} {cs : Array Value} {T : TypeId} {fr : Nat × Nat} (hb : w.heap[b]? = some (.cells cs T fr)) (j : Nat) (v : Value) :
    (w.setCell ⟨b, j, none⟩ v).heap[b]? = some (.cells (cs.setIfInBounds j v) T fr) := by
  simp [World.setCell, Array.getElem?_modify, hb]

/-! ### append, whatever is appended -/
section
variable {P : Program} (w : World)
/-- what is appended: the cells behind an address, or nothing -/
def SrcAt (x : Value) (news : List Value) (w : World) : Prop :=
  (∀ u ∈ news, u.oneCell' = true) ∧ ((∃ c, x = .slice none 0 c ∧ news = []) ∨ ∃ ad c, x = .slice (some ad) news.length c ∧ ∀ j u, news[j]? = some u → w.cell? (ad.add j) = some u)

theorem run_append_any (base : Nat) (t ty e : TypeId) (i : TypeInfo) (z : Value) (bytes : Nat) (ht : P.underlying t = some (.slice e)) (hi : P.info? e = some i) (hz : i.zero = some z)
    (hsize : i.size = 1) (hby : i.bytes = bytes) (hzs : z.cells.size = 1)
    (v : Value) (n : Nat) (xs : List Value) (hown : w.ownsRow base e 1 v n xs) (x : Value) (news : List Value) (hx : SrcAt x news w)
    (h63 : n + news.length ≤ maxLen) (hbytes : (n + news.length) * bytes ≤ 140737488355328) (hbase : base ≤ w.heap.size) :
    ∃ v' w', (Builtin.append_ #[t, t] ty #[v, x]).run P w = .ok v' w' ∧ w'.ownsRow base e 1 v' (n + news.length) (xs ++ news) ∧ w.grownBy w' v.ownBlock ∧ Next w v.ownBlock v'.ownBlock := by
  obtain ⟨h1, ⟨c, rfl, rfl⟩ | ⟨ad, c, rfl, hc⟩⟩ := hx
  · simp only [List.length_nil, Nat.add_zero, List.append_nil]
    rcases hown.2 with ⟨rfl, rfl⟩ | ⟨g, cap, cur, rfl, hbg, hg, hnc, hcm, hcs, htake⟩
    · refine ⟨.slice none 0 0, w, ?_, hown, ⟨rfl, rfl, rfl, Nat.le_refl _, fun _ _ _ => rfl⟩, .inl rfl⟩
      simp [Builtin.append_, run_underlying ht, sizeOf, typeInfo, hi, Builtin.lenOf, Builtin.firstCells, loadCells, loadCellsFrom]
    · have hr := run_append_room_src (P := P) w t t ty e i ht hi g 0 n cap (.slice none 0 c) 0 [] (Src.ofNil w ht c) (by omega) (by simp) (by simp)
      refine ⟨_, _, hr, ?_, ⟨rfl, rfl, rfl, Nat.le_refl _, fun _ _ _ => rfl⟩, .inl rfl⟩
      simpa [World.setCells] using hown
  · obtain ⟨v', w', hr, h2, h3, h4⟩ := run_append_own (P := P) w base t ty e i z 1 bytes ht hi hz hsize hby hzs (by decide) v n xs hown ad news.length c news (by omega) hc h1 h63 hbytes hbase
    refine ⟨v', w', hr, h2, h3, ?_⟩
    by_cases hm : news.length = 0
    · rcases hown.2 with ⟨rfl, rfl⟩ | ⟨g, cap, cur, rfl, hbg, hg, hnc, hcm, hcs, htake⟩
      · rw [h4.2 ⟨rfl, hm⟩]; exact .inl rfl
      · have hr2 := run_append_room (P := P) w t ty e i ht hi g n cap cur hg ad news.length c news (by rw [hsize]; omega) hc h1 (by omega) (by rw [hsize]; omega)
        rw [hr2] at hr
        injection hr with hv _
        subst hv
        exact .inl rfl
    · subst hby
      have hsmall : n + news.length ≤ 9223372036854775807 := by simp only [maxLen] at h63; omega
      rcases hown.2 with ⟨rfl, rfl⟩ | ⟨g, cap, cur, rfl, hbg, hg, hnc, hcm, hcs, htake⟩
      · have hr2 := run_append_nil (P := P) w t ty e i z ht hi hz ad news.length c news (by rw [hsize]; omega) hc (by omega) (by omega) (by have hb := hbytes; simp only [Nat.zero_add] at hb; omega)
        rw [hr2] at hr
        injection hr with hv _
        subst hv
        exact .inr ⟨_, rfl, Nat.le_refl _⟩
      · by_cases hroom : n + news.length ≤ cap
        · have hr2 := run_append_room (P := P) w t ty e i ht hi g n cap cur hg ad news.length c news (by rw [hsize]; omega) hc h1 hroom (by rw [hsize]; omega)
          rw [hr2] at hr
          injection hr with hv _
          subst hv
          exact .inl rfl
        · have holds : ∀ j u, xs[j]? = some u → w.cell? ((⟨g, 0, none⟩ : Addr).add j) = some u := hown.cells (g := g) rfl
          have hr2 := run_append_grow (P := P) w t ty e i z ht hi hz ⟨g, 0, none⟩ n cap xs (by rw [hsize]; exact hown.1) holds ad news.length c news (by rw [hsize]; omega) hc (by omega) (by omega) (growslice_fits (by omega) hbytes)
          rw [hr2] at hr
          injection hr with hv _
          subst hv
          exact .inr ⟨_, rfl, Nat.le_refl _⟩

theorem wpList_append_any {ops : Array Oper} {rest : List Oper} {o : Oper} {a : Act} {Q : Exit → Act → World → Prop} (hgd : o.guard = none) (s x : Operand) (t : TypeId)
    (ho : o.op = .call { callee := .builtin .append, args := #[s, x], argTypes := #[t, t] })
    (base : Nat) (e : TypeId) (i : TypeInfo) (z : Value) (bytes : Nat) (ht : P.underlying t = some (.slice e)) (hi : P.info? e = some i) (hz : i.zero = some z)
    (hsize : i.size = 1) (hby : i.bytes = bytes) (hzs : z.cells.size = 1)
    (v : Value) (n : Nat) (xs : List Value) (hs : a.eval s = v) (hown : w.ownsRow base e 1 v n xs) (xv : Value) (hxe : a.eval x = xv) (news : List Value) (hx : SrcAt xv news w)
    (h63 : n + news.length ≤ maxLen) (hbytes : (n + news.length) * bytes ≤ 140737488355328) (hbase : base ≤ w.heap.size)
    (h : ∀ v' w', w'.ownsRow base e 1 v' (n + news.length) (xs ++ news) → w.grownBy w' v.ownBlock → Next w v.ownBlock v'.ownBlock → wpList P ops Q rest (a.put o.dst v') w') : wpList P ops Q (o :: rest) a w := by
  refine wpList_plain hgd fun K hK => ?_
  obtain ⟨v', w', hr, h2, h3, h4⟩ := run_append_any (P := P) w base t o.type e i z bytes ht hi hz hsize hby hzs v n xs hown xv news hx h63 hbytes hbase
  unfold Oper.wp execOp
  simp only [ho, resolve, invoke, builtin, Sem.run_bind, Sem.run_pure, Result.andThen_ok, List.map_toArray, List.map_cons, List.map_nil, hs, hxe, hr]
  exact hK _ _ (h v' w' h2 h3 h4)
end

/-! ### what lies in memory -/
/-- conditions: interface values that hold pointers to ColumnRefs -/
def Ifs (xs : List Value) : Prop := ∀ x ∈ xs, ∃ b, x = .iface 65 (.pointer (some ⟨b, 0, none⟩))

/-- a slice of conditions, its row in a block that 'ok' lets by -/
def Conds (w : World) (ok : Nat → Prop) (sl : Value) (xs : List Value) : Prop :=
  Ifs xs ∧ ((sl = .slice none 0 0 ∧ xs = []) ∨ ∃ g, ok g ∧ sl = .slice (some ⟨g, 0, none⟩) xs.length xs.length ∧ w.heap[g]? = some (.cells xs.toArray 32 (0, 0)))

theorem Conds.move {w w' : World} {ok ok' : Nat → Prop} {sl : Value} {xs : List Value} (h : Conds w ok sl xs) (hk : ∀ k, ok k → w'.heap[k]? = w.heap[k]? ∧ ok' k) : Conds w' ok' sl xs := by
  obtain ⟨h1, h2⟩ := h
  refine ⟨h1, ?_⟩
  rcases h2 with h2 | ⟨g, h3, h4, h5⟩
  · exact .inl h2
  · exact .inr ⟨g, (hk g h3).2, h4, ((hk g h3).1).trans h5⟩

theorem Ifs.one {xs : List Value} (h : Ifs xs) : ∀ u ∈ xs, u.oneCell' = true := by
  intro u hu; obtain ⟨b, rfl⟩ := h u hu; rfl

theorem Conds.src {w : World} {ok : Nat → Prop} {sl : Value} {xs : List Value} (h : Conds w ok sl xs) : SrcAt sl xs w := by
  obtain ⟨h1, h2⟩ := h
  refine ⟨h1.one, ?_⟩
  rcases h2 with ⟨rfl, rfl⟩ | ⟨g, h3, rfl, h5⟩
  · exact .inl ⟨0, rfl, rfl⟩
  · refine .inr ⟨⟨g, 0, none⟩, xs.length, rfl, fun j u hj => ?_⟩
    have hadd : (⟨g, 0, none⟩ : Addr).add j = ⟨g, j, none⟩ := by unfold Addr.add; split <;> simp_all
    rw [hadd, cell_of h5]; simpa using hj

set_option maxHeartbeats 2000000 in
/-- zzs4192aconds(n): n new ColumnRefs in a new row; nothing old has turned -/
theorem conds_any (n : Nat) (hn : n ≤ 4) (w : World) :
    Calls Ybad.prog 7 #[.int .i64 n] w fun e w' => ∃ sl xs, e = .returned sl ∧ xs.length = n ∧ Conds w' (fun k => w.heap.size ≤ k ∧ k < w'.heap.size) sl xs ∧ Below w.heap.size w w' := by
  have m1 : ∀ w : World, (Instr.makeSlice 23 (.int .i64 1) (.int .i64 1)).run Ybad.prog w = .ok (.slice (some ⟨w.heap.size, 0, none⟩) 1 1) (w.alloc (.cells #[.nilIface] 32)) := fun _ => by kernel_rfl
  have m2 : ∀ w : World, (Instr.makeSlice 23 (.int .i64 2) (.int .i64 2)).run Ybad.prog w = .ok (.slice (some ⟨w.heap.size, 0, none⟩) 2 2) (w.alloc (.cells #[.nilIface, .nilIface] 32)) := fun _ => by kernel_rfl
  have m3 : ∀ w : World, (Instr.makeSlice 23 (.int .i64 3) (.int .i64 3)).run Ybad.prog w = .ok (.slice (some ⟨w.heap.size, 0, none⟩) 3 3) (w.alloc (.cells #[.nilIface, .nilIface, .nilIface] 32)) := fun _ => by kernel_rfl
  have m4 : ∀ w : World, (Instr.makeSlice 23 (.int .i64 4) (.int .i64 4)).run Ybad.prog w = .ok (.slice (some ⟨w.heap.size, 0, none⟩) 4 4) (w.alloc (.cells #[.nilIface, .nilIface, .nilIface, .nilIface] 32)) := fun _ => by kernel_rfl
  have hn5 : n = 0 ∨ n = 1 ∨ n = 2 ∨ n = 3 ∨ n = 4 := by omega
  rcases hn5 with rfl | rfl | rfl | rfl | rfl
  · go_enter Ybad.func7, Ybad.ntmps7
    go_wp2
    go_ret
    exact ⟨_, [], rfl, rfl, ⟨(fun _ h => by cases h), .inl ⟨rfl, rfl⟩⟩, Below.refl _ _⟩
  · go_enter Ybad.func7, Ybad.ntmps7
    go_wp2
    go_rounds 2
    go_ret
    refine ⟨_, [.iface 65 (.pointer (some ⟨w.heap.size + 1, 0, none⟩))], rfl, rfl, ⟨?_, .inr ⟨w.heap.size, ?_, rfl, ?_⟩⟩, ?_⟩
    rotate_left 2
    · rw [Below.heap_alloc _ _ _ (by simp <;> omega)]
      exact heap_alloc_new w _
    · go_grown
    · intro x hx; simp at hx; rcases hx with rfl <;> exact ⟨_, rfl⟩
    · simp <;> omega
  · go_enter Ybad.func7, Ybad.ntmps7
    go_wp2
    go_rounds 3
    go_ret
    refine ⟨_, [.iface 65 (.pointer (some ⟨w.heap.size + 1, 0, none⟩)), .iface 65 (.pointer (some ⟨w.heap.size + 1 + 1, 0, none⟩))], rfl, rfl, ⟨?_, .inr ⟨w.heap.size, ?_, rfl, ?_⟩⟩, ?_⟩
    rotate_left 2
    · rw [Below.heap_alloc _ _ _ (by simp <;> omega)]
      rw [Below.heap_alloc _ _ _ (by simp <;> omega)]
      exact heap_alloc_new w _
    · go_grown
    · intro x hx; simp at hx; rcases hx with rfl | rfl <;> exact ⟨_, rfl⟩
    · simp <;> omega
  · go_enter Ybad.func7, Ybad.ntmps7
    go_wp2
    go_rounds 4
    go_ret
    refine ⟨_, [.iface 65 (.pointer (some ⟨w.heap.size + 1, 0, none⟩)), .iface 65 (.pointer (some ⟨w.heap.size + 1 + 1, 0, none⟩)), .iface 65 (.pointer (some ⟨w.heap.size + 1 + 1 + 1, 0, none⟩))], rfl, rfl, ⟨?_, .inr ⟨w.heap.size, ?_, rfl, ?_⟩⟩, ?_⟩
    rotate_left 2
    · rw [Below.heap_alloc _ _ _ (by simp <;> omega)]
      rw [Below.heap_alloc _ _ _ (by simp <;> omega)]
      rw [Below.heap_alloc _ _ _ (by simp <;> omega)]
      exact heap_alloc_new w _
    · go_grown
    · intro x hx; simp at hx; rcases hx with rfl | rfl | rfl <;> exact ⟨_, rfl⟩
    · simp <;> omega
  · go_enter Ybad.func7, Ybad.ntmps7
    go_wp2
    go_rounds 5
    go_ret
    refine ⟨_, [.iface 65 (.pointer (some ⟨w.heap.size + 1, 0, none⟩)), .iface 65 (.pointer (some ⟨w.heap.size + 1 + 1, 0, none⟩)), .iface 65 (.pointer (some ⟨w.heap.size + 1 + 1 + 1, 0, none⟩)), .iface 65 (.pointer (some ⟨w.heap.size + 1 + 1 + 1 + 1, 0, none⟩))], rfl, rfl, ⟨?_, .inr ⟨w.heap.size, ?_, rfl, ?_⟩⟩, ?_⟩
    rotate_left 2
    · rw [Below.heap_alloc _ _ _ (by simp <;> omega)]
      rw [Below.heap_alloc _ _ _ (by simp <;> omega)]
      rw [Below.heap_alloc _ _ _ (by simp <;> omega)]
      rw [Below.heap_alloc _ _ _ (by simp <;> omega)]
      exact heap_alloc_new w _
    · go_grown
    · intro x hx; simp at hx; rcases hx with rfl | rfl | rfl | rfl <;> exact ⟨_, rfl⟩
    · simp <;> omega
end Go.Proofs.YbulkchugDoor.Pre
