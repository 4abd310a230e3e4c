import Derived.Test.Ybulkchvi3
import Derived.Test.YbulkchviChunks
import Derived.Test.YbulkchviBeside
import Derived.Deep.RegionWith
import Derived.BigRegion
import Derived.BigQuiet
import Derived.Lib.QuietBelow
import Derived.Lib.Builder
namespace Go.Proofs.Ybulkchvi
open Go.RowKit Go.Sort
set_option linter.unusedVariables false
set_option linter.unusedSimpArgs false
set_option maxRecDepth 100000

set_option maxHeartbeats 4000000 in
theorem model5 (pa ra : Option Addr) (pn pc rn rc : Nat) (al st fs sa sr : Int) (bit : Nat → Int) (rb : Nat → Bool) (w : World) (hn : pn ≤ 1024) (hrn : rn ≤ maxLen)
    (hP : RowAt w.heap.size pa pn (fun j => .int .u64 (bit j)) w) (hR : RowAt w.heap.size ra rn (fun j => .bool (rb j)) w) :
    Calls Yba.prog 3 #[.agg #[.bool true, .bool false, .int .i64 fs, .int .u64 sa, .int .u64 sr], .agg #[.bool true, .slice pa pn pc, .slice ra rn rc, .int .i64 st], .int .u64 al] w fun e w' => e = .returned (.bool true) ∧ Below w.heap.size w w' := by
  have HP := hid hP; have HR := hid hR; have Hrn := hid hrn
  unfold maxLen at hrn
  clear hP hR
  have hn1 : ¬ (1024 : Int) < (pn : Int) := by omega
  go_enter Yba.func3, Yba.ntmps3
  go_wp2_with fail
  have bel0 : Below w.heap.size w ((w.alloc (.cells #[.bool true, .bool false, .int .i64 fs, .int .u64 sa, .int .u64 sr] 24)).alloc (.cells #[.bool true, .slice pa pn pc, .slice ra rn rc, .int .i64 st] 28)) := ((Below.refl _ _).alloc (Nat.le_refl _) _).alloc (by simp) _
  have hs0 := heap_alloc_new w (.cells #[.bool true, .bool false, .int .i64 fs, .int .u64 sa, .int .u64 sr] 24)
  have hbox0 := heap_alloc_new (w.alloc (.cells #[.bool true, .bool false, .int .i64 fs, .int .u64 sa, .int .u64 sr] 24)) (.cells #[.bool true, .slice pa pn pc, .slice ra rn rc, .int .i64 st] 28)
  generalize hS0 : w.alloc (.cells #[.bool true, .bool false, .int .i64 fs, .int .u64 sa, .int .u64 sr] 24) = S0 at *
  have zS0 : S0.heap.size = w.heap.size + 1 := by rw [← hS0]; simp
  generalize hW0 : S0.alloc (.cells #[.bool true, .slice pa pn pc, .slice ra rn rc, .int .i64 st] 28) = W0 at *
  have l0 : W0.heap.size = w.heap.size + 2 := by rw [← hW0]; simp [zS0]
  have hs1 : W0.heap[w.heap.size]? = some (.cells #[.bool true, .bool false, .int .i64 fs, .int .u64 sa, .int .u64 sr] 24 (0, 0)) := by rw [← hW0, Below.heap_alloc _ _ _ (by omega)]; exact hs0
  rw [zS0] at hbox0
  have HP0 : RowAt W0.heap.size pa pn (fun j => .int .u64 (bit j)) W0 := fun j hj => by obtain ⟨bb, off, h1, h2, h3⟩ := HP.out.below bel0 j hj; exact ⟨bb, off, h1, by omega, h3⟩
  have HR0 : RowAt W0.heap.size ra rn (fun j => .bool (rb j)) W0 := fun j hj => by obtain ⟨bb, off, h1, h2, h3⟩ := HR.out.below bel0 j hj; exact ⟨bb, off, h1, by omega, h3⟩
  refine (build_any true pa ra pn pc rn rc st bit rb W0 hn Hrn.out HP0 HR0).mono ?_
  rintro e w1 ⟨gp, gr, rfl, hp1, hr1, hgp, hgr, hgne, hb1⟩
  have l1 := hb1.size
  have st1 := (hb1.block w.heap.size (by omega)).trans hs1
  have bx1 := (hb1.block (w.heap.size + 1) (by omega)).trans hbox0
  have s_0 : w1.cell? ⟨w.heap.size, 0, none⟩ = some (.bool true) := by rw [cell_of st1]; rfl
  have s_1 : w1.cell? ⟨w.heap.size, 1, none⟩ = some (.bool false) := by rw [cell_of st1]; rfl
  have s_2 : w1.cell? ⟨w.heap.size, 2, none⟩ = some (.int .i64 fs) := by rw [cell_of st1]; rfl
  have s_3 : w1.cell? ⟨w.heap.size, 3, none⟩ = some (.int .u64 sa) := by rw [cell_of st1]; rfl
  have s_4 : w1.cell? ⟨w.heap.size, 4, none⟩ = some (.int .u64 sr) := by rw [cell_of st1]; rfl
  have x_0 : w1.cell? ⟨w.heap.size + 1, 0, none⟩ = some (.bool true) := by rw [cell_of bx1]; rfl
  have x_3 : w1.cell? ⟨w.heap.size + 1, 3, none⟩ = some (.int .i64 st) := by rw [cell_of bx1]; rfl
  have Hst1 := hid st1; have Hbx1 := hid bx1
  have Hp1 := hid hp1; have Hr1 := hid hr1; have Hb1 := hid hb1; have Hbel0 := hid bel0
  clear hp1 hr1 hb1 HP0 HR0 hbox0 bel0 hs0 hs1 hS0 hW0 st1 bx1
  have lw : w.heap.size < w1.heap.size := by omega
  have lw1 : w.heap.size + 1 < w1.heap.size := by omega
  go_wp2_with fail
  have q1 := heap_alloc_new w1 (.cells #[.pointer (some ⟨w1.heap.size + 1, 0, none⟩), .bool false, .int .u64 sa, .int .u64 sr] 35)
  generalize hA1 : w1.alloc (.cells #[.pointer (some ⟨w1.heap.size + 1, 0, none⟩), .bool false, .int .u64 sa, .int .u64 sr] 35) = A1 at *
  have zA1 : A1.heap.size = w1.heap.size + 1 := by rw [← hA1]; simp
  have bA1 : Below w1.heap.size w1 A1 := by rw [← hA1]; exact (Below.refl _ _).alloc (Nat.le_refl _) _
  have q2 := heap_alloc_new A1 (.cells #[.int .u8 1, .bool false, .slice none 0 0, .slice none 0 0, .int .i64 fs] 38)
  generalize hA2 : A1.alloc (.cells #[.int .u8 1, .bool false, .slice none 0 0, .slice none 0 0, .int .i64 fs] 38) = A2 at *
  have zA2 : A2.heap.size = w1.heap.size + 1 + 1 := by rw [← hA2]; simp [zA1]
  have bA2 : Below A1.heap.size A1 A2 := by rw [← hA2]; exact (Below.refl _ _).alloc (Nat.le_refl _) _
  rw [zA1] at q2
  have q3 := heap_alloc_new A2 (.cells #[.int .u8 1, .bool true, .slice (some ⟨gp, 0, none⟩) pn pn, .slice (some ⟨gr, 0, none⟩) pn pn, .int .i64 st] 38)
  generalize hA3 : A2.alloc (.cells #[.int .u8 1, .bool true, .slice (some ⟨gp, 0, none⟩) pn pn, .slice (some ⟨gr, 0, none⟩) pn pn, .int .i64 st] 38) = A3 at *
  have zA3 : A3.heap.size = w1.heap.size + 1 + 1 + 1 := by rw [← hA3]; simp [zA2]
  have bA3 : Below A2.heap.size A2 A3 := by rw [← hA3]; exact (Below.refl _ _).alloc (Nat.le_refl _) _
  rw [zA2] at q3
  have q4 := heap_alloc_new A3 (.cells #[.slice none 0 0] 39)
  generalize hA4 : A3.alloc (.cells #[.slice none 0 0] 39) = A4 at *
  have zA4 : A4.heap.size = w1.heap.size + 1 + 1 + 1 + 1 := by rw [← hA4]; simp [zA3]
  have bA4 : Below A3.heap.size A3 A4 := by rw [← hA4]; exact (Below.refl _ _).alloc (Nat.le_refl _) _
  rw [zA3] at q4
  have belA : Below w1.heap.size w1 A4 := (((bA1.trans (bA2.mono (by omega))).trans (bA3.mono (by omega))).trans (bA4.mono (by omega)))
  have k1 : A4.heap[w1.heap.size]? = some (.cells #[.pointer (some ⟨w1.heap.size + 1, 0, none⟩), .bool false, .int .u64 sa, .int .u64 sr] 35 (0, 0)) := ((bA4.block _ (by omega)).trans ((bA3.block _ (by omega)).trans ((bA2.block _ (by omega)).trans q1)))
  have k2 : A4.heap[w1.heap.size + 1]? = some (.cells #[.int .u8 1, .bool false, .slice none 0 0, .slice none 0 0, .int .i64 fs] 38 (0, 0)) := ((bA4.block _ (by omega)).trans ((bA3.block _ (by omega)).trans q2))
  have k3 : A4.heap[w1.heap.size + 1 + 1]? = some (.cells #[.int .u8 1, .bool true, .slice (some ⟨gp, 0, none⟩) pn pn, .slice (some ⟨gr, 0, none⟩) pn pn, .int .i64 st] 38 (0, 0)) := ((bA4.block _ (by omega)).trans q3)
  have k4 : A4.heap[w1.heap.size + 1 + 1 + 1]? = some (.cells #[.slice none 0 0] 39 (0, 0)) := q4
  have hlA : LogAt w.heap.size (w1.heap.size + 1 + 1 + 1) (.slice none 0 0) 0 [] A4 := ⟨by omega, k4, World.ownsRow_nil _ _ _ _⟩
  have hpA := Hp1.out.move (belA.block gp Hp1.out.lt)
  have hrA := Hr1.out.move (belA.block gr Hr1.out.lt)
  have lgp := Hp1.out.lt
  have lgr := Hr1.out.lt
  have stA := (belA.block _ lw).trans Hst1.out
  have bxA := (belA.block _ lw1).trans Hbx1.out
  have belW : Below w.heap.size w A4 := (Hbel0.out.trans (Hb1.out.mono (by omega))).trans (belA.mono (by omega))
  refine (apply_beside8 w.heap.size (w1.heap.size) (w1.heap.size + 1 + 1 + 1) (w1.heap.size + 1 + 1) gp gr (w1.heap.size + 1) pn al sa sr 1 st 1 fs false true (by simp) (.slice none 0 0) 0 (by omega) [] A4 _ _ k1 k2 k3 hlA).mono ?_
  rintro e w4 ⟨u4, rfl, hadj4, hlog4, hfr4, hnx4⟩
  have km4 := hfr4.keep k3 (by omega) (by omega) (by simp [Value.ownBlock])
  have st4 := hfr4.keep stA (by omega) (by omega) (by simp [Value.ownBlock])
  have bx4 := hfr4.keep bxA (by omega) (by omega) (by simp [Value.ownBlock])
  have hp4 := hpA.move (hfr4.2.2.2.2 gp (by omega) (by omega) (by omega) (by simp [Value.ownBlock]))
  have hr4 := hrA.move (hfr4.2.2.2.2 gr (by omega) (by omega) (by omega) (by simp [Value.ownBlock]))
  have bel4 : Below w.heap.size w w4 := belW.trans (hfr4.below (by omega) (by omega) (by omega) (fun k hk => by simp [Value.ownBlock] at hk))
  have l4 := hfr4.size
  rw [zA4] at l4
  simp only [Nat.zero_add, List.nil_append] at hlog4
  have Hadj4 := hid hadj4; have Hlog4 := hid hlog4; have Hkm4 := hid km4; have Hst4 := hid st4; have Hbx4 := hid bx4; have Hp4 := hid hp4; have Hr4 := hid hr4; have Hbel4 := hid bel4
  have t_0 : w4.cell? ⟨w.heap.size, 0, none⟩ = some (.bool true) := by rw [cell_of st4]; rfl
  have t_1 : w4.cell? ⟨w.heap.size, 1, none⟩ = some (.bool false) := by rw [cell_of st4]; rfl
  have t_2 : w4.cell? ⟨w.heap.size, 2, none⟩ = some (.int .i64 fs) := by rw [cell_of st4]; rfl
  have t_3 : w4.cell? ⟨w.heap.size, 3, none⟩ = some (.int .u64 sa) := by rw [cell_of st4]; rfl
  have t_4 : w4.cell? ⟨w.heap.size, 4, none⟩ = some (.int .u64 sr) := by rw [cell_of st4]; rfl
  have y_0 : w4.cell? ⟨w.heap.size + 1, 0, none⟩ = some (.bool true) := by rw [cell_of bx4]; rfl
  clear hadj4 hlog4 km4 st4 bx4 hp4 hr4 bel4 hfr4 hnx4 k1 q1 hA1 bA1 zA1 k2 q2 hA2 bA2 zA2 k3 q3 hA3 bA3 zA3 k4 q4 hA4 bA4 zA4 belA belW hlA hpA hrA stA bxA Hp1 Hr1 Hb1 Hbel0 Hst1 Hbx1 s_0 s_1 s_2 s_3 s_4 x_0 x_3
  obtain ⟨j38, hj38⟩ := Option.isSome_iff_exists.1 (show (Yba.prog.info? 38).isSome = true by kernel_rfl)
  obtain ⟨i0, hi, hz0, hz1, hz2⟩ := info_parts info44
  have lW : w.heap.size < w4.heap.size := by omega
  have lW1 : w.heap.size + 1 < w4.heap.size := by omega
  go_wp2_with (at_builtin; refine wpList_append_own2 _ rfl _ _ 39 rfl w4.heap.size 44 i0 _ 7 56 Yba.underlying39 hi hz0 hz1 hz2 rfl (by decide) _ _ _ rfl ((World.ownsRow_nil _ _ _ _).alloc _) ⟨w4.heap.size, 0, none⟩ 1 1 (fault 0 0 0 fs) rfl rfl (fault_cells w4 0 0 0 fs 44) (fault_one 0 0 0 fs) ?c3 ?c4 ?c5 (by decide) ?_)
  case c3 => unfold maxLen; omega
  case c4 => omega
  case c5 => first | omega | (simp; done) | (simp; omega)
  intro u2 w2 ho2 hg2 hn2
  have hbel : Below w4.heap.size w4 w2 := ⟨hg2.os, hg2.tape, hg2.output, by have := hg2.size; first | omega | (simp at this; omega), fun k hk => (hg2.block k (by simp; omega) (by simp [Value.ownBlock])).trans (Below.heap_alloc _ _ _ hk)⟩
  clear hg2 hn2
  -- the end: from world w2
  have a5 := (hbel.block _ (heap_lt Hadj4.out)).trans Hadj4.out
  have m5 := (hbel.block _ (heap_lt Hkm4.out)).trans Hkm4.out
  have b5 := (hbel.block _ (heap_lt Hbx4.out)).trans Hbx4.out
  have g5 := (hbel.block _ (heap_lt Hlog4.out.2.1)).trans Hlog4.out.2.1
  have hlog5 := own_move Hlog4.out.2.2 (fun g _ hg => hbel.block g hg)
  have bel5 : Below w.heap.size w w2 := Hbel4.out.trans (hbel.mono (by omega))
  have hp5 := Hp4.out.move (hbel.block gp Hp4.out.lt)
  have hr5 := Hr4.out.move (hbel.block gr Hr4.out.lt)
  have lz := hbel.size
  obtain ⟨ao, ca, rfl⟩ := own_slice hlog5
  obtain ⟨bo, cb, rfl⟩ := own_slice ho2
  have CE := hid (equal_rows ao bo _ ca cb w2 (by omega) (rows2_of hlog5 ho2 (Chunks.nil.snoc 0 0 0 fs)))
  have a_0 : w2.cell? ⟨w1.heap.size, 0, none⟩ = some (.pointer (some ⟨w1.heap.size + 1, 0, none⟩)) := by rw [cell_of a5]; rfl
  have a_1 : w2.cell? ⟨w1.heap.size, 1, none⟩ = some (.bool false) := by rw [cell_of a5]; rfl
  have a_2 : w2.cell? ⟨w1.heap.size, 2, none⟩ = some (.int .u64 sa) := by rw [cell_of a5]; rfl
  have a_3 : w2.cell? ⟨w1.heap.size, 3, none⟩ = some (.int .u64 sr) := by rw [cell_of a5]; rfl
  have g_0 : w2.cell? ⟨w1.heap.size + 1 + 1 + 1, 0, none⟩ = some (.slice ao 1 ca) := by rw [cell_of g5]; rfl
  have hpn := fun (wx : World) (ad : Addr) => Lib.run_neq_ptr_same (P := Yba.prog) wx (tp := 32) ad Yba.underlying32 hj38
  have M5 := hid m5; have B5 := hid b5; have BEL5 := hid bel5; have HP5 := hid hp5; have HR5 := hid hr5
  clear a5 m5 b5 g5 hlog5 bel5 hp5 hr5 Hadj4 Hlog4 Hkm4 Hst4 Hbx4 Hp4 Hr4 Hbel4
  go_wp2_with fail
  refine CE.out.mono ?_
  rintro e w6 ⟨rfl, hb6⟩
  have l6 := hb6.size
  have m6 := (hb6.block _ (heap_lt M5.out)).trans M5.out
  have b6 := (hb6.block _ (heap_lt B5.out)).trans B5.out
  have hp6 := HP5.out.move (hb6.block gp HP5.out.lt)
  have hr6 := HR5.out.move (hb6.block gr HR5.out.lt)
  have bel6 : Below w.heap.size w w6 := BEL5.out.trans (hb6.mono (by omega))
  have k_m2 := cell_regrown (show w6.cell? ⟨w1.heap.size + 1 + 1, 2, none⟩ = some (.slice (some ⟨gp, 0, none⟩) pn pn) by rw [cell_of m6]; rfl)
  have k_m3 := cell_regrown (show w6.cell? ⟨w1.heap.size + 1 + 1, 3, none⟩ = some (.slice (some ⟨gr, 0, none⟩) pn pn) by rw [cell_of m6]; rfl)
  have k_b0 := cell_regrown (show w6.cell? ⟨w.heap.size + 1, 0, none⟩ = some (.bool true) by rw [cell_of b6]; rfl)
  have k_b1 := cell_regrown (show w6.cell? ⟨w.heap.size + 1, 1, none⟩ = some (.slice pa pn pc) by rw [cell_of b6]; rfl)
  have k_b2 := cell_regrown (show w6.cell? ⟨w.heap.size + 1, 2, none⟩ = some (.slice ra rn rc) by rw [cell_of b6]; rfl)
  have k_b3 := cell_regrown (show w6.cell? ⟨w.heap.size + 1, 3, none⟩ = some (.int .i64 st) by rw [cell_of b6]; rfl)
  have hle : w.heap.size ≤ w6.heap.size := by omega
  have HPr : Hid (∀ d os, RowAt (grow (redrawn w6 d) os).heap.size pa pn (fun j => .int .u64 (bit j)) (grow (redrawn w6 d) os)) := fun d os i hi => by
    obtain ⟨bb, off, h1, h2, h3⟩ := HP.out.below bel6 i hi
    have hs := (below_regrown w6 d os).size
    exact ⟨bb, off, h1, by omega, cell_regrown h3 d os⟩
  have HRr : Hid (∀ d os, RowAt (grow (redrawn w6 d) os).heap.size ra rn (fun j => .bool (rb j)) (grow (redrawn w6 d) os)) := fun d os i hi => by
    obtain ⟨bb, off, h1, h2, h3⟩ := HR.out.below bel6 i hi
    have hs := (below_regrown w6 d os).size
    exact ⟨bb, off, h1, by omega, cell_regrown h3 d os⟩
  have CS := hid (fun (d : Nat) (os : Array Obj) => Calls.regrown_of (w := w6) (d := d) (os := os) (v := .bool true) ((same_any true pa ra pn pc rn rc gp gr st bit rb (grow (redrawn w6 d) os) hn Hrn.out (HPr.out d os) (HRr.out d os) (hp6.move ((below_regrown w6 d os).block gp hp6.lt)) (hr6.move ((below_regrown w6 d os).block gr hr6.lt))).mono fun e w' h => ⟨h.1, by obtain ⟨nq, h2⟩ := h.2; rw [h2]; exact below_drewN ((Below.refl _ _).alloc (Nat.le_refl _) _) nq⟩))
  have hdone : Hid (∀ d os, Below w.heap.size w (grow (redrawn w6 d) os)) := fun d os => bel6.trans ((below_regrown w6 d os).mono hle)
  clear hb6 m6 b6 hp6 hr6 bel6 HPr HRr CE M5 B5 BEL5 HP5 HR5 HP HR a_0 a_1 a_2 a_3 g_0 t_0 t_1 t_2 t_3 t_4 y_0
  go_wp2
  refine wp_region_quiet_below (by kernel_rfl) (by kernel_rfl) ?_
  repeat (go_big_quiet_step (exact CS.out _ _))
  refine wpQuiet_nil ?_
  intro _ hw'
  obtain ⟨⟨dq, osq⟩, hw''⟩ := hw'
  subst hw''
  go_wp2
  go_ret
  exact ⟨rfl, hdone.out dq osq⟩
end Go.Proofs.Ybulkchvi
