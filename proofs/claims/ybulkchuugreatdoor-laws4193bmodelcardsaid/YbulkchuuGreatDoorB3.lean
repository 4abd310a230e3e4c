import Derived.Test.YbulkchuuGreatDoorB2
namespace Go.Proofs.YbulkchuuGreatDoor
open Go.RowKit Go.Maps
set_option linter.unusedVariables false
set_option linter.unusedSimpArgs false
set_option maxRecDepth 100000

theorem wrap64_nat (m : Nat) (h : m ≤ 100000000) : IntKind.i64.wrap (m : Int) = (m : Int) := by
  simp [IntKind.wrap, IntKind.bits, IntKind.signed]
  omega
theorem wrap32_nat (m : Nat) (h : m ≤ 100000000) : IntKind.i32.wrap (m : Int) = (m : Int) := by
  simp [IntKind.wrap, IntKind.bits, IntKind.signed]
  omega
theorem cell_al {w : World} {b j : Nat} {v : Value} (h : w.cell? ⟨b, j, none⟩ = some v) (o : Obj) : (w.alloc o).cell? ⟨b, j, none⟩ = some v := (cell_eq (Below.heap_alloc w o b (World.block_lt_of_cell? w _ h)) j).trans h
theorem grown_trans {a b c : World} {row : Option Nat} (h1 : a.grownBy b row) (h2 : b.grownBy c row) : a.grownBy c row :=
  ⟨h2.os.trans h1.os, h2.tape.trans h1.tape, h2.output.trans h1.output, Nat.le_trans h1.size h2.size, fun i hi hne => (h2.block i (Nat.lt_of_lt_of_le hi h1.size) hne).trans (h1.block i hi hne)⟩
theorem below_grown {B : Nat} {a b c : World} {row : Option Nat} (h : Below B a b) (hg : b.grownBy c row) (hB : B ≤ a.heap.size) (hr : ∀ r, row = some r → B ≤ r) : Below B a c :=
  ⟨hg.os.trans h.os, hg.tape.trans h.tape, hg.output.trans h.output, Nat.le_trans h.size hg.size, fun i hi => (hg.block i (Nat.lt_of_lt_of_le hi (Nat.le_trans hB h.size)) (fun e => by have := hr i e.symm; omega)).trans (h.block i hi)⟩
theorem new_cells (w : World) (cs : List Value) (T : TypeId) : ∀ j u, cs[j]? = some u → (w.alloc (.cells cs.toArray T)).cell? ((⟨w.heap.size, 0, none⟩ : Addr).add j) = some u := by
  intro j u hj
  have hadd : (⟨w.heap.size, 0, none⟩ : Addr).add j = ⟨w.heap.size, j, none⟩ := by unfold Addr.add; split <;> simp_all
  rw [hadd, cell_of (heap_alloc_new w (.cells cs.toArray T))]
  simpa using hj
theorem ent_one (kd : Int) (nm : ByteArray) (g : Int) : ∀ u ∈ ent kd nm g, u.oneCell' = true := by
  intro u hu
  simp only [ent, List.mem_cons, List.not_mem_nil, or_false] at hu
  rcases hu with rfl | rfl | rfl | rfl | rfl | rfl | rfl <;> rfl
theorem build_fin {D : DIn} {w w5 w6 w10 : World} {wb N NN n1 nl nc : Nat} {na : Option Addr} {Dm Dl : DataW Value} (hS : Small D) (hn1 : n1 ≤ 400) (hN : D.n = (N : Int)) (hNn : D.nn = NN) (hwbl : w.heap.size + 2 ≤ wb) (hwb5 : wb < w5.heap.size) (hG6 : w5.grownBy w6 (some wb))
    (hR5 : RulesIn (w.heap.size + 2) wb D Dm w5) (hO5 : w5.ownsMap Ybaz.prog 125 Rh w.heap.size n1 Dm) (hSn5 : StrRow wb na NN D.named w5) (hSlo : ∀ j, j < NN → ∀ bb off, na = some ⟨bb, off, none⟩ → w.heap.size + 2 ≤ bb) (hW6 : WRows wb N N D w6)
    (hOl : w10.ownsMap Ybaz.prog 9 Rh w6.heap.size nl Dl) (hLl : LRows w6.heap.size (listOf D) Dl w10) (hBl : Below w6.heap.size w6 w10) (hB5 : Below w.heap.size w w5)
    (hf10 : w10.heap[w.heap.size + 1]? = some (.cells (fileCells w.heap.size (.slice na NN nc) (.map none) (.slice none 0 0)) 106 (0, 0))) :
    BuildPost D w (.returned (.pointer (some ⟨w.heap.size + 1, 0, none⟩))) (((((((w10.setCell ⟨w.heap.size + 1, 5, none⟩ (.map (some w6.heap.size))).setCell ⟨w.heap.size + 1, 6, none⟩ (.slice (some ⟨wb, 0, none⟩) N N)).setCell ⟨w.heap.size + 1, 7, none⟩ (.slice none 0 0)).setCell ⟨w.heap.size + 1, 8, none⟩ (.slice none 0 0)).setCell ⟨w.heap.size + 1, 9, none⟩ (.slice none 0 0)).setCell ⟨w.heap.size + 1, 10, none⟩ (.int .i64 0)).setCell ⟨w.heap.size + 1, 11, none⟩ (.slice none 0 0)) := by
  have hsz6 := hG6.size
  subst hNn
  have hb6 : ∀ b, b < wb → w6.heap[b]? = w5.heap[b]? := fun b hb => hG6.block b (by omega) (by simp; omega)
  have hR6 := hR5.keep (Nat.le_refl _) (Nat.le_refl _) (fun b _ b2 => hb6 b b2)
  have hO6 := hO5.kept hG6 (by simp; omega)
  have hSn6 : StrRow wb na D.nn D.named w6 := fun j hj => by
    obtain ⟨bb, off, e1, e2, e3, e4⟩ := hSn5 j hj
    exact ⟨bb, off, e1, e2, (cell_eq (hb6 bb e2) _).trans e3, e4⟩
  have hfr : ∀ (W : World) (j : Nat) (v : Value) (b : Nat), b ≠ w.heap.size + 1 → (W.setCell ⟨w.heap.size + 1, j, none⟩ v).heap[b]? = W.heap[b]? := fun W j v b hb => Below.heap_setCell _ _ _ _ (by simpa using hb)
  have hB10 : Below w.heap.size w w10 := (below_grown hB5 hG6 (Nat.le_refl _) (fun r e => by injection e with e; omega)).trans ⟨hBl.os, hBl.tape, hBl.output, hBl.size, fun b hb => hBl.block b (by have := hB5.size; omega)⟩
  have hle : w.heap.size ≤ w.heap.size + 1 := by omega
  refine ⟨w.heap.size + 1, rfl, hle, FileAt.make (nc := nc) hS hn1 hN rfl rfl hwbl (by omega) hR6 hO6 hSn6 hSlo hW6 rfl hOl hLl hBl _ (fun b hb => ?_) ?_ ?_, ?_⟩
  · rw [hfr _ _ _ _ hb, hfr _ _ _ _ hb, hfr _ _ _ _ hb, hfr _ _ _ _ hb, hfr _ _ _ _ hb, hfr _ _ _ _ hb, hfr _ _ _ _ hb]
  · simp
  · rw [heap_set (heap_set (heap_set (heap_set (heap_set (heap_set (heap_set hf10 5 _) 6 _) 7 _) 8 _) 9 _) 10 _) 11 _]; simp [fileCells]
  · exact ((((((hB10.setCell hle _).setCell hle _).setCell hle _).setCell hle _).setCell hle _).setCell hle _).setCell hle _
set_option maxHeartbeats 16000000 in
theorem build13 (Bd db : Nat) (D : DIn) (w : World) (hBw : Bd ≤ w.heap.size) (h8 : 8 ≤ w.heap.size) (hD : InD Bd D w) (hA : DAt db D w) (hS : Small D) (htab : Lib.TabIs Ybaz.prog w "internal/strconv.uint64pow10" .u64 Lib.pow10Tab) :
    Calls Ybaz.prog 13 #[.pointer (some ⟨db, 0, none⟩)] w (BuildPost D w) := by
  have hmm := @run_makeMap Ybaz.prog
  have HD := hid hD; have HA := hid hA; have HS := hid hS; have Htab := hid htab
  have hdb := heap_lt hA
  obtain ⟨N, hN⟩ : ∃ N : Nat, D.n = (N : Int) := ⟨D.n.toNat, by have := hD.n0; omega⟩
  have hN255 : N ≤ 255 := by have := hD.n0; omega
  have HNN := hid hN
  have c4 : w.cell? ⟨db, 4, none⟩ = some (.int .u8 (N : Int)) := by rw [cell_of hA, ← hN]; rfl
  have c0 : w.cell? ⟨db, 0, none⟩ = some (.slice D.ra D.rn D.rc) := by rw [cell_of hA]; rfl
  obtain ⟨RN, hRN⟩ : ∃ x, D.rn = x := ⟨_, rfl⟩
  have HRN := hid hRN
  have hRN3 : RN ≤ 300 := by have := hS.rn; omega
  rw [hRN] at c0
  clear hD hA hS htab hN hRN
  go_enter Ybaz.func13, Ybaz.ntmps13
  go_wp2
  generalize hW1 : (w.alloc (Obj.map #[] 0)).alloc (Obj.cells #[.string ⟨#[]⟩, .map (some w.heap.size), .map none, .map none, .slice none 0 0, .map none, .slice none 0 0, .slice none 0 0, .slice none 0 0, .slice none 0 0, .int .i64 0, .slice none 0 0, .slice none 0 0, .pointer none, .int .u64 0, .pointer none, .int .u64 0, .nilFunc, .map none, .int .i32 0, .int .u32 0] 106) = W1
  have hW1s : W1.heap.size = w.heap.size + 2 := by rw [← hW1]; simp
  have hW1B : Below w.heap.size w W1 := by rw [← hW1]; exact ((Below.refl _ w).alloc (Nat.le_refl _) _).alloc (by simp) _
  have hW1f : W1.heap[w.heap.size + 1]? = some (.cells (fileCells w.heap.size (.slice none 0 0) (.map none) (.slice none 0 0)) 106 (0, 0)) := by
    rw [← hW1]
    have := heap_alloc_new (w.alloc (Obj.map #[] 0)) (Obj.cells (fileCells w.heap.size (.slice none 0 0) (.map none) (.slice none 0 0)) 106)
    simpa [fileCells] using this
  have hW1o : W1.ownsMap Ybaz.prog 125 Rh w.heap.size 0 (.map []) := by rw [← hW1]; exact (World.ownsMap_made w Ybaz.prog 125 Rh).alloc _
  have HB1 := hid hW1B; have HF1 := hid hW1f; have HO1 := hid hW1o
  clear hW1 hW1B hW1f hW1o
  go_loopw [37] (fun vk wr => ∃ (k : Nat) (Dm : DataW Value), k ≤ RN ∧ vk = .int .i64 k ∧ W1.grownBy wr (some w.heap.size) ∧ Below w.heap.size w wr ∧ wr.ownsMap Ybaz.prog 125 Rh w.heap.size k Dm ∧ RSound (w.heap.size + 2) D k Dm wr) (fun vk _ => RN - (intOf vk).toNat)
  case atStart => exact ⟨0, .map [], by omega, rfl, ⟨rfl, rfl, rfl, Nat.le_refl _, fun _ _ _ => rfl⟩, HB1.out, HO1.out, fun kl h => by simp [Maps.has] at h, fun j hj => by omega⟩
  case round =>
    generalize wr = wq at *
    obtain ⟨k, Dm, hk, rfl, hG, hB, hO, hR⟩ := hrel
    have HG := hid hG; have HB := hid hB; have HO := hid hO; have HR := hid hR
    have hszq := hG.size
    clear hG hB hO hR
    by_cases hkn : k < RN
    · have hki : (k : Int) < (RN : Int) := by omega
      obtain ⟨bb, off, hra, hbb, s0, s1⟩ := HD.out.repo k (by have := HRN.out; omega)
      have d0 := (HB.out.cell (p := ⟨bb, off + k, none⟩) (by show bb < w.heap.size; omega)).trans s0
      obtain ⟨RA, hRA⟩ : ∃ x, D.ra = x := ⟨_, rfl⟩
      rw [hRA] at hra ⊢
      subst hra
      obtain ⟨rp, hrp⟩ : ∃ x, D.repo k = x := ⟨_, rfl⟩
      rw [hrp] at d0 s1
      have Hrp := hid hrp
      have Hcall := hid (itoa26 k (by omega) wq (tab_below Htab.out HB.out h8))
      clear s0 hRA hrp
      go_wp2_with (go_at_call 26; refine Hcall.out.mono ?_; rintro e w2 ⟨⟨s, rfl, hs20⟩, hB2⟩; have HB2 := hid hB2; clear hB2)
      obtain ⟨pth, hpth⟩ : ∃ x, (⟨#[47, 114]⟩ ++ s : ByteArray) = x := ⟨_, rfl⟩
      have hpl : pth.size ≤ 22 := by rw [← hpth, ByteArray.size_append, show (⟨#[47, 114]⟩ : ByteArray).size = 2 from rfl]; omega
      rw [hpth]
      clear hpth
      obtain ⟨kl, hkl⟩ := key125 rp pth (by unfold maxLen; omega) (by unfold maxLen; omega)
      generalize hW2 : w2.alloc (Obj.cells #[.string rp, .string pth, .bool false] 125) = W2
      have hsz2 := HB2.out.size
      have hW2s : W2.heap.size = w2.heap.size + 1 := by rw [← hW2]; simp
      have hW2k : W2.heap[w2.heap.size]? = some (.cells #[.string rp, .string pth, .bool false] 125 (0, 0)) := by rw [← hW2]; exact heap_alloc_new _ _
      have hB22 : Below wq.heap.size wq W2 := by rw [← hW2]; exact HB2.out.alloc hsz2 _
      have k0 : W2.cell? ⟨w2.heap.size, 0, none⟩ = some (.string rp) := by rw [cell_of hW2k]; rfl
      have k1 : W2.cell? ⟨w2.heap.size, 1, none⟩ = some (.string pth) := by rw [cell_of hW2k]; rfl
      have k2 : W2.cell? ⟨w2.heap.size, 2, none⟩ = some (.bool false) := by rw [cell_of hW2k]; rfl
      have hf2 : W2.heap[w.heap.size + 1]? = some (.cells (fileCells w.heap.size (.slice none 0 0) (.map none) (.slice none 0 0)) 106 (0, 0)) := by
        rw [hB22.block _ (by omega), HG.out.block _ (by omega) (by simp)]; exact HF1.out
      have k3 : W2.cell? ⟨w.heap.size + 1, 1, none⟩ = some (.map (some w.heap.size)) := by rw [cell_of hf2]; rfl
      have hO2 : W2.ownsMap Ybaz.prog 125 Rh w.heap.size k Dm := HO.out.kept (grown_of_below hB22 none) (by simp)
      obtain ⟨w3, hrun, r1, r2⟩ := ((hO2.alloc (.cells #[.string rp, .string pth, .bool false, .slice none 0 0, .slice none 0 0, .int .i64 ((k : Int) + 2), .string ⟨#[]⟩, .slice none 0 0, .map none] 132)).drew).update law125 Ybaz.underlying89 (by unfold maxLen; omega) hkl (val := .pointer (some ⟨W2.heap.size, 0, none⟩)) (d := .held (.pointer (some ⟨W2.heap.size, 0, none⟩))) (ps := []) rfl
      unfold rkey at hrun
      have HB22 := hid hB22; have Hf2 := hid hf2; have HO2 := hid hO2; have R1 := hid r1; have R2 := hid r2; have Hkl := hid hkl
      clear hW2 hW2k hB22 hf2 hO2 r1 r2 hkl Hcall
      rw [hW2s] at hrun
      have k0' := cell_al k0 (.cells #[.string rp, .string pth, .bool false, .slice none 0 0, .slice none 0 0, .int .i64 ((k : Int) + 2), .string ⟨#[]⟩, .slice none 0 0, .map none] 132)
      have k1' := cell_al k1 (.cells #[.string rp, .string pth, .bool false, .slice none 0 0, .slice none 0 0, .int .i64 ((k : Int) + 2), .string ⟨#[]⟩, .slice none 0 0, .map none] 132)
      have k2' := cell_al k2 (.cells #[.string rp, .string pth, .bool false, .slice none 0 0, .slice none 0 0, .int .i64 ((k : Int) + 2), .string ⟨#[]⟩, .slice none 0 0, .map none] 132)
      have k3' := cell_al k3 (.cells #[.string rp, .string pth, .bool false, .slice none 0 0, .slice none 0 0, .int .i64 ((k : Int) + 2), .string ⟨#[]⟩, .slice none 0 0, .map none] 132)
      go_region
      go_wp2
      go_roundw
      case rel =>
        have hgr : wq.grownBy w3 (some w.heap.size) := grown_trans (grown_trans (grown_of_below HB22.out _) (World.grownBy_alloc W2 _ _)) ⟨R2.out.os, R2.out.tape, R2.out.output, R2.out.size, R2.out.block⟩
        refine ⟨k + 1, _, by omega, by go_num, grown_trans HG.out hgr, below_grown HB.out hgr (Nat.le_refl _) (fun r e => by injection e with e; omega), R1.out, ?_⟩
        refine HR.out.put HO.out hgr (by rw [Hrp.out]; exact Hkl.out) (by have := HG.out.size; omega) ?_
        have hblk : w3.heap[W2.heap.size]? = _ := (R2.out.block W2.heap.size (by show W2.heap.size < (W2.alloc _).heap.size; simp) (by simp; omega)).trans (heap_alloc_new W2 _)
        rw [cell_of hblk]; rfl
      case measure => simp [intOf] <;> omega
    · have hki : ¬ (k : Int) < (RN : Int) := by omega
      obtain rfl : k = RN := by omega
      have hA' : DAt db D wq := (HB.out.block db hdb).trans HA.out
      have c1 : wq.cell? ⟨db, 1, none⟩ = some (.slice D.ua D.un D.uc) := by rw [cell_of hA']; rfl
      obtain ⟨UN, hUN⟩ : ∃ x, D.un = x := ⟨_, rfl⟩
      have HUN := hid hUN
      have hUN3 : UN ≤ 300 := by have := HS.out.un; omega
      rw [hUN] at c1
      have HA' := hid hA'
      clear hA' hUN c0 c4
      go_wp2
      obtain ⟨i136, hi136, hz0, hz1, hz2⟩ := info_parts info136
      go_loopw [8, 63] (fun ve vk wr => ∃ k : Nat, k ≤ UN ∧ vk = .int .i64 k ∧ Below wq.heap.size wq wr ∧ wr.ownsRow wq.heap.size 136 7 ve k (userEnts D k)) (fun _ vk _ => UN - (intOf vk).toNat)
      case atStart => exact ⟨0, by omega, rfl, Below.refl _ _, World.ownsRow_nil _ _ _ _⟩
      case round =>
        generalize wr = wz at *
        obtain ⟨j, hj, rfl, hBz, hOz⟩ := hrel
        obtain ⟨va, vc, rfl⟩ := own_slice' hOz
        have HBz := hid hBz; have HOz := hid hOz
        have hszz := hBz.size
        have hszw := HB.out.size
        clear hBz hOz
        by_cases hjn : j < UN
        · have hji : (j : Int) < (UN : Int) := by omega
          obtain ⟨bb, off, hua, hbb, s0, s1⟩ := HD.out.user j (by have := HUN.out; omega)
          have d0 := (HBz.out.cell (p := ⟨bb, off + j, none⟩) (by show bb < wq.heap.size; omega)).trans ((HB.out.cell (p := ⟨bb, off + j, none⟩) (by show bb < w.heap.size; omega)).trans s0)
          obtain ⟨UA, hUA⟩ : ∃ x, D.ua = x := ⟨_, rfl⟩
          rw [hUA] at hua ⊢
          subst hua
          obtain ⟨us, hus⟩ : ∃ x, D.user j = x := ⟨_, rfl⟩
          rw [hus] at d0 s1
          have Hus := hid hus
          clear s0 hUA hus
          go_wp2_with (at_builtin; refine wpList_append_own _ rfl _ _ 129 rfl wq.heap.size 136 i136 _ 7 56 Ybaz.underlying129 hi136 hz0 hz1 hz2 rfl (by decide) _ _ _ rfl (HOz.out.alloc _) ⟨wz.heap.size, 0, none⟩ 1 1 (ent 3 us 0) rfl rfl (new_cells wz (ent 3 us 0) 136) (ent_one 3 us 0) ?c3 ?c4 ?c5 ?_)
          case c3 => unfold maxLen; omega
          case c4 => omega
          case c5 => simp; omega
          intro v' w4 ho hg _
          have Ho := hid ho; have Hg := hid hg
          clear ho hg
          go_wp2
          go_roundw
          case rel =>
            have hb4 : Below wq.heap.size wq w4 := below_grown (HBz.out.alloc hszz _) Hg.out (Nat.le_refl _) (fun r e => by have := (HOz.out.lt r e).1; omega)
            refine ⟨j + 1, by omega, by go_num, hb4, ?_⟩
            rw [userEnts_succ, Hus.out]; exact Ho.out
          case measure => simp [intOf] <;> omega
        · have hji : ¬ (j : Int) < (UN : Int) := by omega
          obtain rfl : j = UN := by omega
          have hA2 : DAt db D wz := (HBz.out.block db (by omega)).trans HA'.out
          have c2 : wz.cell? ⟨db, 2, none⟩ = some (.slice D.ga D.gn D.gc) := by rw [cell_of hA2]; rfl
          obtain ⟨GN, hGN⟩ : ∃ x, D.gn = x := ⟨_, rfl⟩
          have HGN := hid hGN
          have hGN3 : GN ≤ 300 := by have := HS.out.gn; omega
          rw [hGN] at c2
          have HA2 := hid hA2
          clear hA2 hGN c1
          go_upto_if 74 with fail
          go_cut [8] from 24 (fun ve wx => Below wq.heap.size wq wx ∧ wx.ownsRow wq.heap.size 136 7 ve (nEnts D) (allEnts D))
          case first =>
            by_cases hN0 : 0 < N
            · have hN0i : (0 : Int) < (N : Int) := by omega
              have hNne : ((N : Int) == 0) = false := by simp; omega
              go_wp2
              go_loopw [8, 80] (fun ve vk wr => ∃ t : Nat, t ≤ GN ∧ vk = .int .i64 t ∧ Below wq.heap.size wq wr ∧ wr.ownsRow wq.heap.size 136 7 ve (j + t) (userEnts D j ++ groupEnts D t)) (fun _ vk _ => GN - (intOf vk).toNat)
              case atStart => exact ⟨0, by omega, rfl, HBz.out, by simpa [groupEnts] using HOz.out⟩
              case round =>
                generalize wr = wy at *
                obtain ⟨t, ht, rfl, hBy, hOy⟩ := hrel
                obtain ⟨ya, yc, rfl⟩ := own_slice' hOy
                have HBy := hid hBy; have HOy := hid hOy
                have hszy := hBy.size
                clear hBy hOy
                by_cases htn : t < GN
                · have hti : (t : Int) < (GN : Int) := by omega
                  obtain ⟨bb, off, hga, hbb, s0, s1, s2⟩ := HD.out.grp t (by have := HGN.out; omega)
                  have d0 := (HBy.out.cell (p := ⟨bb, off + t, none⟩) (by show bb < wq.heap.size; omega)).trans ((HB.out.cell (p := ⟨bb, off + t, none⟩) (by show bb < w.heap.size; omega)).trans s0)
                  obtain ⟨GA, hGA⟩ : ∃ x, D.ga = x := ⟨_, rfl⟩
                  rw [hGA] at hga ⊢
                  subst hga
                  obtain ⟨gv, hgv⟩ : ∃ x : Nat, D.grp t = (x : Int) := ⟨(D.grp t).toNat, by omega⟩
                  rw [hgv] at d0 s1 s2
                  have Hgv := hid hgv
                  have hgv255 : gv ≤ 255 := by omega
                  obtain ⟨m, hm⟩ : ∃ m : Nat, (gv : Int) % (N : Int) = (m : Int) := ⟨gv % N, by simp⟩
                  have hm255 : m ≤ 255 := by have := Nat.mod_lt gv hN0; omega
                  have Hm := hid hm
                  clear s0 hGA hgv s1 s2
                  go_wp2_with (at_builtin; refine wpList_append_own _ rfl _ _ 129 rfl wq.heap.size 136 i136 _ 7 56 Ybaz.underlying129 hi136 hz0 hz1 hz2 rfl (by decide) _ _ _ rfl (HOy.out.alloc _) ⟨wy.heap.size, 0, none⟩ 1 1 (ent 4 ⟨#[103]⟩ (m : Int)) rfl rfl (new_cells wy (ent 4 ⟨#[103]⟩ (m : Int)) 136) (ent_one 4 ⟨#[103]⟩ (m : Int)) ?f3 ?f4 ?f5 ?_)
                  case f3 => unfold maxLen; omega
                  case f4 => omega
                  case f5 => simp; omega
                  intro v' w4 ho hg _
                  have Ho := hid ho; have Hg := hid hg
                  clear ho hg
                  go_wp2
                  go_roundw
                  case rel =>
                    have hb4 : Below wq.heap.size wq w4 := below_grown (HBy.out.alloc hszy _) Hg.out (Nat.le_refl _) (fun r e => by have := (HOy.out.lt r e).1; omega)
                    refine ⟨t + 1, by omega, by go_num, hb4, ?_⟩
                    rw [groupEnts_succ, Hgv.out, HNN.out, Hm.out]; exact Ho.out
                  case measure => simp [intOf] <;> omega
                · have hti : ¬ (t : Int) < (GN : Int) := by omega
                  obtain rfl : t = GN := by omega
                  go_wp2
                  go_meet
                  case rel =>
                    refine ⟨HBy.out, ?_⟩
                    have h1 : nEnts D = j + t := by unfold nEnts; rw [HUN.out, HGN.out, if_pos (by rw [HNN.out]; exact hN0i)]
                    have h2 : allEnts D = userEnts D j ++ groupEnts D t := by unfold allEnts; rw [HUN.out, HGN.out, if_pos (by rw [HNN.out]; exact hN0i)]
                    rw [h1, h2]; exact HOy.out
            · have hN0i : ¬ (0 : Int) < (N : Int) := by omega
              obtain rfl : N = 0 := by omega
              go_wp2
              go_meet
              case rel =>
                refine ⟨HBz.out, ?_⟩
                have h1 : nEnts D = j := by unfold nEnts; rw [HUN.out, if_neg (by rw [HNN.out]; omega)]; rfl
                have h2 : allEnts D = userEnts D j := by unfold allEnts; rw [HUN.out, if_neg (by rw [HNN.out]; omega)]; simp
                rw [h1, h2]; exact HOz.out
          case rest =>
            obtain ⟨hBx, hOx⟩ := hcut
            generalize hwx : wc = wx at *
            clear hwx
            obtain ⟨ea, ec, rfl⟩ := own_slice' hOx
            have hszx := hBx.size
            have hG1x : W1.grownBy wx (some w.heap.size) := grown_trans HG.out (grown_of_below hBx _)
            have hfx : wx.heap[w.heap.size + 1]? = some (.cells (fileCells w.heap.size (.slice none 0 0) (.map none) (.slice none 0 0)) 106 (0, 0)) := by
              rw [hG1x.block _ (by omega) (by simp)]; exact HF1.out
            have hOmx : wx.ownsMap Ybaz.prog 125 Rh w.heap.size k Dm := HO.out.kept (grown_of_below hBx none) (by simp)
            obtain ⟨kl, hkl⟩ := key125 ⟨#[]⟩ ⟨#[47, 97, 108, 108]⟩ (by decide) (by decide)
            have HBx := hid hBx; have HOx := hid hOx; have HG1x := hid hG1x; have Hfx := hid hfx; have HOmx := hid hOmx
            clear hBx hOx hG1x hfx hOmx
            go_upto_region 22 with fail
            generalize hW2 : wx.alloc (Obj.cells #[.string ⟨#[]⟩, .string ⟨#[47, 97, 108, 108]⟩, .bool false] 125) = W2
            have hW2s : W2.heap.size = wx.heap.size + 1 := by rw [← hW2]; simp
            have hW2k : W2.heap[wx.heap.size]? = some (.cells #[.string ⟨#[]⟩, .string ⟨#[47, 97, 108, 108]⟩, .bool false] 125 (0, 0)) := by rw [← hW2]; exact heap_alloc_new _ _
            have hB22 : Below wx.heap.size wx W2 := by rw [← hW2]; exact (Below.refl _ wx).alloc (Nat.le_refl _) _
            have k0 : W2.cell? ⟨wx.heap.size, 0, none⟩ = some (.string ⟨#[]⟩) := by rw [cell_of hW2k]; rfl
            have k1 : W2.cell? ⟨wx.heap.size, 1, none⟩ = some (.string ⟨#[47, 97, 108, 108]⟩) := by rw [cell_of hW2k]; rfl
            have k2 : W2.cell? ⟨wx.heap.size, 2, none⟩ = some (.bool false) := by rw [cell_of hW2k]; rfl
            have hf2 : W2.heap[w.heap.size + 1]? = some (.cells (fileCells w.heap.size (.slice none 0 0) (.map none) (.slice none 0 0)) 106 (0, 0)) := (hB22.block _ (by omega)).trans Hfx.out
            have k3 : W2.cell? ⟨w.heap.size + 1, 1, none⟩ = some (.map (some w.heap.size)) := by rw [cell_of hf2]; rfl
            have hO2 : W2.ownsMap Ybaz.prog 125 Rh w.heap.size k Dm := HOmx.out.kept (grown_of_below hB22 none) (by simp)
            obtain ⟨w3, hrun, r1, r2⟩ := ((hO2.alloc (.cells #[.string ⟨#[]⟩, .string ⟨#[47, 97, 108, 108]⟩, .bool false, .slice none 0 0, .slice none 0 0, .int .i64 1, .string ⟨#[]⟩, .slice ea (nEnts D) ec, .map none] 132)).drew).update law125 Ybaz.underlying89 (by unfold maxLen; omega) hkl (val := .pointer (some ⟨W2.heap.size, 0, none⟩)) (d := .held (.pointer (some ⟨W2.heap.size, 0, none⟩))) (ps := []) rfl
            unfold rkey at hrun
            have k0' := cell_al k0 (.cells #[.string ⟨#[]⟩, .string ⟨#[47, 97, 108, 108]⟩, .bool false, .slice none 0 0, .slice none 0 0, .int .i64 1, .string ⟨#[]⟩, .slice ea (nEnts D) ec, .map none] 132)
            have k1' := cell_al k1 (.cells #[.string ⟨#[]⟩, .string ⟨#[47, 97, 108, 108]⟩, .bool false, .slice none 0 0, .slice none 0 0, .int .i64 1, .string ⟨#[]⟩, .slice ea (nEnts D) ec, .map none] 132)
            have k2' := cell_al k2 (.cells #[.string ⟨#[]⟩, .string ⟨#[47, 97, 108, 108]⟩, .bool false, .slice none 0 0, .slice none 0 0, .int .i64 1, .string ⟨#[]⟩, .slice ea (nEnts D) ec, .map none] 132)
            have k3' := cell_al k3 (.cells #[.string ⟨#[]⟩, .string ⟨#[47, 97, 108, 108]⟩, .bool false, .slice none 0 0, .slice none 0 0, .int .i64 1, .string ⟨#[]⟩, .slice ea (nEnts D) ec, .map none] 132)
            have HB22 := hid hB22; have R1 := hid r1; have R2 := hid r2; have Hkl := hid hkl
            clear hW2 hW2k hB22 hf2 hO2 r1 r2 hkl
            rw [hW2s] at hrun
            go_region
            have hgr : wx.grownBy w3 (some w.heap.size) := grown_trans (grown_trans (grown_of_below HB22.out _) (World.grownBy_alloc W2 _ _)) ⟨R2.out.os, R2.out.tape, R2.out.output, R2.out.size, R2.out.block⟩
            have hB3 : Below w.heap.size w w3 := below_grown HB1.out (grown_trans HG1x.out hgr) (Nat.le_refl _) (fun r e => by injection e with e; omega)
            have hf3 : w3.heap[w.heap.size + 1]? = some (.cells (fileCells w.heap.size (.slice none 0 0) (.map none) (.slice none 0 0)) 106 (0, 0)) := (hgr.block _ (by omega) (by simp)).trans Hfx.out
            have hR3 : RulesIn (w.heap.size + 2) w3.heap.size D (Dm.put kl (.held (.pointer (some ⟨W2.heap.size, 0, none⟩)))) w3 := by
              have hrs := HR.out.grown HO.out (grown_of_below HBx.out none)
              rw [← HRN.out] at hrs
              refine hrs.all HOmx.out hgr Hkl.out (by omega) (ec := ec) ?_ ((own_entRow HOx.out).keep (by omega) hgr.size (fun b b1 b2 => hgr.block b b2 (by simp; omega)))
              have hblk : w3.heap[W2.heap.size]? = _ := (R2.out.block W2.heap.size (by show W2.heap.size < (W2.alloc _).heap.size; simp) (by simp; omega)).trans (heap_alloc_new W2 _)
              rw [cell_of hblk]; rfl
            have hsz3 := hgr.size
            have hA3 : DAt db D w3 := (hB3.block db hdb).trans HA.out
            have c3 : w3.cell? ⟨db, 3, none⟩ = some (.slice D.na D.nn D.nc) := by rw [cell_of hA3]; rfl
            have hcl := clone27 Bd D.na D.nn D.nc D.named w3 HS.out.nn (HD.out.below (hB3.mono hBw)).named
            have HB3 := hid hB3; have Hf3 := hid hf3; have HR3 := hid hR3; have HO3 := hid R1.out; have HA3 := hid hA3; have Hcl := hid hcl
            clear hgr hB3 hf3 hR3 hA3 hcl R1 R2 HB22 hrun k0 k1 k2 k3 k0' k1' k2' k3' c2
            obtain ⟨NN, hNN⟩ : ∃ x, D.nn = x := ⟨_, rfl⟩
            have HNn := hid hNN
            rw [hNN] at c3 Hcl
            clear hNN
            obtain ⟨i77, hi77, hy0, hy1, hy2⟩ := info_parts info77
            go_wp2_with (first
              | (go_at_call 27; refine Hcl.out.mono ?_; rintro e w4 ⟨na, nc, rfl, hSn, hB4, hSlo⟩; have hf4 := (hB4.block (w.heap.size + 1) (by omega)).trans Hf3.out; have x4 : w4.cell? ⟨w.heap.size + 1, 4, none⟩ = some (.slice none 0 0) := (by rw [cell_of hf4]; rfl); have xf := frozen_of hf4 4; have HSn := hid hSn; have HB4 := hid hB4; have HSlo := hid hSlo; have Hf4 := hid hf4; clear hSn hB4 hSlo hf4)
              | (at_make; refine wpList_make_full _ rfl _ _ 70 rfl w4.heap.size 77 i77 (.slice none 0 0) 1 Ybaz.underlying70 hi77 hy0 hy1 _ _ _ _ N rfl rfl rfl rfl ?b1 ?b2 ?b3 ?_))
            case b1 => first | omega | (rw [hy2]; omega)
            case b2 => unfold maxLen; omega
            case b3 => first | omega | simp
            intro w5 hown5 hg5
            have hsz4 := HB4.out.size
            obtain ⟨wb, hwb⟩ : ∃ x, w4.heap.size = x := ⟨_, rfl⟩
            have hown5' : w5.ownsRow w4.heap.size 77 1 (.slice (some ⟨w4.heap.size, 0, none⟩) N N) N (madeCells #[.slice none 0 0] N).toList := by simpa [Value.cells] using hown5
            have hWR := own_within (D := D) hown5'
            have hg5' : ∀ b, b < wb → w5.heap[b]? = (w4.setCell ⟨w.heap.size + 1, 4, none⟩ (.slice na NN nc)).heap[b]? := fun b hb => hg5.block b (by simp; omega) (by simp)
            have hg5n : ∀ b, b < wb → b ≠ w.heap.size + 1 → w5.heap[b]? = w4.heap[b]? := fun b hb hne => (hg5' b hb).trans (Below.heap_setCell _ _ _ _ (by simpa using hne))
            have hf5 : w5.heap[w.heap.size + 1]? = some (.cells (fileCells w.heap.size (.slice na NN nc) (.map none) (.slice none 0 0)) 106 (0, 0)) := by
              rw [hg5' _ (by omega), heap_set Hf4.out]; rfl
            have hR5 : RulesIn (w.heap.size + 2) wb D (Dm.put kl (.held (.pointer (some ⟨W2.heap.size, 0, none⟩)))) w5 := HR3.out.keep (Nat.le_refl _) (by omega) (fun b b1 b2 => (hg5n b (by omega) (by omega)).trans (HB4.out.block b b2))
            have hO5 : w5.ownsMap Ybaz.prog 125 Rh w.heap.size (k + 1) (Dm.put kl (.held (.pointer (some ⟨W2.heap.size, 0, none⟩)))) := by
              obtain ⟨es, c, e1, e2⟩ := HO3.out
              exact ⟨es, c, ((hg5n _ (by omega) (by omega)).trans (HB4.out.block _ (by omega))).trans e1, e2⟩
            have hSn5 : StrRow wb na NN D.named w5 := fun j hj => by
              obtain ⟨bb, off, e1, e2, e3, e4⟩ := HSn.out j hj
              have := HSlo.out j hj bb off e1
              exact ⟨bb, off, e1, by omega, (cell_eq (hg5n bb (by omega) (by omega)) _).trans e3, e4⟩
            have hB5 : Below w.heap.size w w5 := HB3.out.trans ⟨hg5.os.trans HB4.out.os, hg5.tape.trans HB4.out.tape, hg5.output.trans HB4.out.output, by have := hg5.size; simp at this; omega, fun b hb => (hg5n b (by omega) (by omega)).trans (HB4.out.block b (by omega))⟩
            have hwb5 : wb < w5.heap.size := by obtain ⟨cur, e, _⟩ := hWR; rw [hwb] at e; exact heap_lt e
            rw [hwb] at hWR ⊢
            have hA5 : DAt db D w5 := (hB5.block db hdb).trans HA.out
            have HWR := hid hWR; have Hf5 := hid hf5; have HR5 := hid hR5; have HO5 := hid hO5; have HSn5 := hid hSn5; have HB5 := hid hB5; have HA5 := hid hA5
            clear hWR hf5 hR5 hO5 hSn5 hB5 hA5 hown5 hown5' hg5 hg5' hg5n Hf4 xf x4 Hcl c3 HR3 HO3 Hf3 HB4
            have hwbl : w.heap.size + 2 ≤ wb := by omega
            clear hwb
            obtain ⟨WN, hWN⟩ : ∃ x, D.wn = x := ⟨_, rfl⟩
            have HWN := hid hWN
            have hWN3 : WN ≤ 300 := by have := HS.out.wn; omega
            clear hWN
            go_wp2
            go_loopw [15] (fun vk wr => ∃ g : Nat, g ≤ N ∧ vk = .int .i64 g ∧ w5.grownBy wr (some wb) ∧ WRows wb N g D wr) (fun vk _ => N - (intOf vk).toNat)
            case atStart => exact ⟨0, by omega, rfl, ⟨rfl, rfl, rfl, Nat.le_refl _, fun _ _ _ => rfl⟩, HWR.out⟩
            case round =>
              generalize wr = w6 at *
              obtain ⟨g, hg, rfl, hG6, hW6⟩ := hrel
              have hsz6 := hG6.size
              have hA6 : DAt db D w6 := (hG6.block db (by omega) (by simp; omega)).trans HA5.out
              have HG6 := hid hG6; have HW6 := hid hW6; have HA6 := hid hA6
              by_cases hgN : g < N
              · have hgi : (g : Int) < (N : Int) := by omega
                have c6 : w6.cell? ⟨db, 6, none⟩ = some (.slice D.wa D.wn D.wc) := by rw [cell_of hA6]; rfl
                rw [HWN.out] at c6
                clear hG6 hW6 hA6
                by_cases hgW : g < WN
                · have hgWi : (g : Int) < (WN : Int) := by omega
                  obtain ⟨bb, off, hwa, hbb, s0, s1⟩ := HD.out.within g (by have := HWN.out; omega)
                  have d0 := (cell_eq (HG6.out.block bb (by omega) (by simp; omega)) (off + g)).trans ((HB5.out.cell (p := ⟨bb, off + g, none⟩) (by show bb < w.heap.size; omega)).trans s0)
                  obtain ⟨WA, hWA⟩ : ∃ x, D.wa = x := ⟨_, rfl⟩
                  rw [hWA] at hwa c6
                  subst hwa
                  obtain ⟨M, hM⟩ : ∃ x, D.wgn g = x := ⟨_, rfl⟩
                  have HM := hid hM
                  have hM3 : M ≤ 300 := by have := HS.out.wg g (by have := HWN.out; omega); omega
                  rw [hM] at d0
                  have Hs1 := hid s1
                  obtain ⟨cur, hcur, hcs, hc3, hc4⟩ := HW6.out
                  have Hcur := hid hcur; have Hcs := hid hcs; have Hc3 := hid hc3; have Hc4 := hid hc4
                  clear s0 hWA hM s1 hcur hcs hc3 hc4
                  go_wp2
                  go_loopw [134] (fun vk wr => ∃ j : Nat, j ≤ M ∧ vk = .int .i64 j ∧ WIn w6 wb g cur D j wr) (fun vk _ => M - (intOf vk).toNat)
                  case atStart => exact ⟨0, by omega, rfl, WIn.start Hcur.out (Hc4.out g (Nat.le_refl _) hgN)⟩
                  case round =>
                    generalize wr = w7 at *
                    obtain ⟨jj, hjj, rfl, hW7⟩ := hrel
                    have HW7 := hid hW7
                    obtain ⟨hG7, v7, hb7, hO7⟩ := hW7
                    have hsz7 := hG7.size
                    by_cases hjM : jj < M
                    · have hjMi : (jj : Int) < (M : Int) := by omega
                      obtain ⟨va, vc, rfl⟩ := own_slice' hO7
                      obtain ⟨b2, o2, hwga, hb2, t0, t1, t2⟩ := Hs1.out jj (by have := HM.out; omega)
                      have d7 := (cell_eq (hG7.block b2 (by omega) (by simp; omega)) (o2 + jj)).trans ((cell_eq (HG6.out.block b2 (by omega) (by simp; omega)) (o2 + jj)).trans ((HB5.out.cell (p := ⟨b2, o2 + jj, none⟩) (by show b2 < w.heap.size; omega)).trans t0))
                      obtain ⟨GA, hGA⟩ : ∃ x, D.wga g = x := ⟨_, rfl⟩
                      rw [hGA] at hwga ⊢
                      subst hwga
                      obtain ⟨gv, hgv⟩ : ∃ x : Nat, D.wg g jj = (x : Int) := ⟨(D.wg g jj).toNat, by omega⟩
                      rw [hgv] at d7 t1 t2
                      have Hgv := hid hgv
                      have hgv255 : gv ≤ 255 := by omega
                      have hN0 : 0 < N := by omega
                      have hNne : ((N : Int) == 0) = false := by simp; omega
                      obtain ⟨m, hm⟩ : ∃ m : Nat, (gv : Int) % (N : Int) = (m : Int) := ⟨gv % N, by simp⟩
                      have hm255 : m ≤ 255 := by have := Nat.mod_lt gv hN0; omega
                      have Hm := hid hm
                      have x1 : w7.cell? ⟨wb, g, none⟩ = some (.slice va jj vc) := by rw [cell_of hb7]; simp [Hcs.out, hgN]
                      obtain ⟨i21, hi21, hx0, hx1, hx2⟩ := info_parts info21
                      obtain ⟨v', w8, hrun, ho8, hg8, _, _⟩ := run_append_own_at (P := Ybaz.prog) (w7.alloc (.cells #[.int .i32 (m : Int)] 21)).drew w6.heap.size 77 77 21 i21 (.int .i32 0) 1 4 Ybaz.underlying77 hi21 hx0 hx1 hx2 rfl (by decide) (.slice va jj vc) jj (I32s (wTo D g jj)) (hO7.alloc (.cells #[.int .i32 (m : Int)] 21)) ⟨w7.heap.size, 0, none⟩ 1 1 [.int .i32 (m : Int)] rfl (new_cells w7 [.int .i32 (m : Int)] 21) (by intro u hu; simp at hu; subst hu; rfl) (by unfold maxLen; omega) (by omega) (by show w6.heap.size ≤ (w7.alloc _).heap.size; simp; omega)
                      obtain ⟨va', vc', rfl⟩ := own_slice' ho8
                      have hb8 : w8.heap[wb]? = some (.cells (cur.setIfInBounds g (.slice va jj vc)) 77 (0, 0)) := by
                        rw [hg8.block wb (by show wb < (w7.alloc _).heap.size; simp; omega) (fun e => by have := (hO7.lt wb e.symm).1; omega)]
                        show (w7.alloc _).heap[wb]? = _
                        rw [Below.heap_alloc _ _ _ (by omega)]
                        exact hb7
                      have x8 : w8.cell? ⟨wb, g, none⟩ = some (.slice va jj vc) := by rw [cell_of hb8]; simp [Hcs.out, hgN]
                      have xf8 := frozen_of hb8 g
                      have Hrun := hid hrun; have Ho8 := hid ho8; have Hg8 := hid hg8; have Hb8 := hid hb8; have HO7 := hid hO7; have HG7 := hid hG7
                      clear t0 t1 t2 hGA hgv hrun ho8 hg8 hb8 hO7 hG7 hb7
                      go_wp2_with fail
                      have hN0n : ¬ N = 0 := by omega
                      have hwr := wrap64_nat gv (by omega)
                      have htm : ((gv : Int).tmod (N : Int)) = (m : Int) := by rw [Int.tmod_eq_emod_of_nonneg (by omega)]; exact hm
                      have hwm := wrap32_nat m (by omega)
                      have x1' := cell_al x1 (.cells #[.int .i32 (m : Int)] 21)
                      go_region_law (refine step_append_eq rfl (.tmp 143) (.tmp 149) 77 rfl (by simp [Act.eval, Act.put]) (by simp [Act.eval, Act.put]) Hrun.out ?_)
                      all_goals
                        go_wp2
                        go_roundw
                        case rel =>
                          exact ⟨jj + 1, by omega, by go_num, WIn.step (by omega) HG7.out HO7.out Hb8.out (by rw [Hm.out]; exact Ho8.out) Hg8.out Hgv.out HNN.out⟩
                        case measure => simp [intOf] <;> omega
                    · have hjMi : ¬ (jj : Int) < (M : Int) := by omega
                      obtain rfl : jj = M := by omega
                      go_wp2
                      go_roundw
                      case rel =>
                        refine ⟨g + 1, by omega, by go_num, grown_trans HG6.out HW7.out.1, WIn.done Hcs.out (by omega) Hc3.out Hc4.out (by rw [HM.out]; exact HW7.out) (by have := HWN.out; omega)⟩
                      case measure => simp [intOf] <;> omega
                · have hgWi : ¬ (g : Int) < (WN : Int) := by omega
                  go_wp2
                  go_roundw
                  case rel => exact ⟨g + 1, by omega, by go_num, HG6.out, HW6.out.skip (by have := HWN.out; omega)⟩
                  case measure => simp [intOf] <;> omega
              · have hgi : ¬ (g : Int) < (N : Int) := by omega
                obtain rfl : g = N := by omega
                obtain ⟨LN, hLN⟩ : ∃ x, D.ln = x := ⟨_, rfl⟩
                have HLN := hid hLN
                have hLN3 : LN ≤ 300 := by have := HS.out.ln; omega
                clear hLN
                obtain ⟨W9, hW9⟩ : ∃ x, w6.alloc (Obj.map #[] 0) = x := ⟨_, rfl⟩
                have hB9 : Below w6.heap.size w6 W9 := by rw [← hW9]; exact (Below.refl _ w6).alloc (Nat.le_refl _) _
                have hs9 : W9.heap.size = w6.heap.size + 1 := by rw [← hW9]; simp
                have hO9 : W9.ownsMap Ybaz.prog 9 Rh w6.heap.size 0 (.map []) := by rw [← hW9]; exact World.ownsMap_made w6 Ybaz.prog 9 Rh
                have hA9 : DAt db D W9 := (hB9.block db (by omega)).trans hA6
                have c5 : W9.cell? ⟨db, 5, none⟩ = some (.slice D.la D.ln D.lc) := by rw [cell_of hA9]; rfl
                rw [HLN.out] at c5
                have HB9 := hid hB9; have HO9 := hid hO9; have HA9 := hid hA9
                clear hB9 hO9 hA9 hG6 hW6 hA6
                go_upto_if 155 with fail
                clear hW9
                go_cut [] from 24 (fun wx => ∃ (Dl : DataW Value) (n : Nat), wx.ownsMap Ybaz.prog 9 Rh w6.heap.size n Dl ∧ LRows w6.heap.size (listOf D) Dl wx ∧ Below w6.heap.size w6 wx)
                case first =>
                  by_cases hN0 : 0 < g
                  · have hN0i : (0 : Int) < (g : Int) := by omega
                    have hNne : ((g : Int) == 0) = false := by simp; omega
                    have hN0n : ¬ g = 0 := by omega
                    go_wp2
                    go_loopw [161] (fun vk wr => ∃ (kk : Nat) (Dl : DataW Value), kk ≤ LN ∧ vk = .int .i64 kk ∧ wr.ownsMap Ybaz.prog 9 Rh w6.heap.size kk Dl ∧ LRows w6.heap.size (lstTo D kk) Dl wr ∧ Below w6.heap.size w6 wr) (fun vk _ => LN - (intOf vk).toNat)
                    case atStart => exact ⟨0, _, by omega, rfl, HO9.out, LRows.start _ _, HB9.out⟩
                    case round =>
                      generalize wr = wA at *
                      obtain ⟨kk, Dl, hkk, rfl, hOA, hLA, hBA⟩ := hrel
                      have HOA := hid hOA; have HLA := hid hLA; have HBA := hid hBA
                      have hszA := hBA.size
                      have hltA := hOA.lt
                      clear hOA hLA hBA
                      by_cases hkL : kk < LN
                      · have hkLi : (kk : Int) < (LN : Int) := by omega
                        obtain ⟨bb, off, hla, hbb, s0, s1, s2, s3⟩ := HD.out.list kk (by have := HLN.out; omega)
                        have hcA : ∀ o, wA.cell? ⟨bb, o, none⟩ = w.cell? ⟨bb, o, none⟩ := fun o => cell_eq ((HBA.out.block bb (by omega)).trans ((HG6.out.block bb (by omega) (by simp; omega)).trans (HB5.out.block bb (by omega)))) o
                        have d0 := (hcA (off + kk * 2)).trans s0
                        have d1 := (hcA (off + kk * 2 + 1)).trans s1
                        obtain ⟨LA, hLAa⟩ : ∃ x, D.la = x := ⟨_, rfl⟩
                        rw [hLAa] at hla ⊢
                        subst hla
                        obtain ⟨M, hM⟩ : ∃ x, D.lgn kk = x := ⟨_, rfl⟩
                        have HM := hid hM
                        have hM3 : M ≤ 300 := by have := HS.out.lg kk (by have := HLN.out; omega); omega
                        rw [hM] at d1
                        obtain ⟨lu, hlu⟩ : ∃ x, D.lu kk = x := ⟨_, rfl⟩
                        have Hlu := hid hlu
                        rw [hlu] at d0 s2
                        have Hs3 := hid s3
                        clear s0 s1 hLAa hM hlu s3 hcA
                        obtain ⟨wC, hwC⟩ : ∃ x, wA.alloc (Obj.cells #[.string lu, .slice (D.lga kk) M (D.lgc kk)] 122) = x := ⟨_, rfl⟩
                        have hBC : Below wA.heap.size wA wC := by rw [← hwC]; exact (Below.refl _ wA).alloc (Nat.le_refl _) _
                        have hsC : wC.heap.size = wA.heap.size + 1 := by rw [← hwC]; simp
                        have hbC : wC.heap[wA.heap.size]? = some (.cells #[.string lu, .slice (D.lga kk) M (D.lgc kk)] 122 (0, 0)) := by rw [← hwC]; exact heap_alloc_new _ _
                        have y0 : wC.cell? ⟨wA.heap.size, 0, none⟩ = some (.string lu) := by rw [cell_of hbC]; rfl
                        have y1 : wC.cell? ⟨wA.heap.size, 1, none⟩ = some (.slice (D.lga kk) M (D.lgc kk)) := by rw [cell_of hbC]; rfl
                        have HBC := hid hBC; have HbC := hid hbC
                        clear hBC hbC
                        obtain ⟨i21, hi21, hx0, hx1, hx2⟩ := info_parts info21
                        go_wp2
                        go_loopw [21, 168] (fun ve vk wr => ∃ jj : Nat, jj ≤ M ∧ vk = .int .i64 jj ∧ Below wC.heap.size wC wr ∧ wr.ownsRow wC.heap.size 21 1 ve jj (I32s (gTo D kk jj))) (fun _ vk _ => M - (intOf vk).toNat)
                        case atStart => exact ⟨0, by omega, rfl, Below.refl _ _, World.ownsRow_nil _ _ _ _⟩
                        case round =>
                          generalize wr = wE at *
                          obtain ⟨jj, hjj, rfl, hBE, hOE⟩ := hrel
                          obtain ⟨va, vc, rfl⟩ := own_slice' hOE
                          have HBE := hid hBE; have HOE := hid hOE
                          have hszE := hBE.size
                          clear hBE hOE
                          by_cases hjM : jj < M
                          · have hjMi : (jj : Int) < (M : Int) := by omega
                            obtain ⟨b2, o2, hlga, hb2, t0, t1, t2⟩ := Hs3.out jj (by have := HM.out; omega)
                            have d7 := (cell_eq ((HBE.out.block b2 (by omega)).trans ((HBC.out.block b2 (by omega)).trans ((HBA.out.block b2 (by omega)).trans ((HG6.out.block b2 (by omega) (by simp; omega)).trans (HB5.out.block b2 (by omega)))))) (o2 + jj)).trans t0
                            obtain ⟨GA, hGA⟩ : ∃ x, D.lga kk = x := ⟨_, rfl⟩
                            rw [hGA] at hlga ⊢
                            subst hlga
                            obtain ⟨gv, hgv⟩ : ∃ x : Nat, D.lg kk jj = (x : Int) := ⟨(D.lg kk jj).toNat, by omega⟩
                            rw [hgv] at d7 t1 t2
                            have Hgv := hid hgv
                            have hgv255 : gv ≤ 255 := by omega
                            obtain ⟨m, hm⟩ : ∃ m : Nat, (gv : Int) % (g : Int) = (m : Int) := ⟨gv % g, by simp⟩
                            have hm255 : m ≤ 255 := by have := Nat.mod_lt gv hN0; omega
                            have Hm := hid hm
                            clear t0 hGA hgv t1 t2
                            go_wp2_with (at_builtin; refine wpList_append_own _ rfl _ _ 77 rfl wC.heap.size 21 i21 _ 1 4 Ybaz.underlying77 hi21 hx0 hx1 hx2 rfl (by decide) _ _ _ rfl (HOE.out.alloc _) ⟨wE.heap.size, 0, none⟩ 1 1 [.int .i32 (m : Int)] rfl rfl (new_cells wE [.int .i32 (m : Int)] 21) (by intro u hu; simp at hu; subst hu; rfl) ?g3 ?g4 ?g5 ?_)
                            case g3 => unfold maxLen; omega
                            case g4 => omega
                            case g5 => simp; omega
                            intro v' wF ho hgw _
                            have Ho := hid ho; have Hg := hid hgw
                            clear ho hgw
                            go_wp2
                            go_roundw
                            case rel =>
                              refine ⟨jj + 1, by omega, by go_num, below_grown (HBE.out.alloc hszE _) Hg.out (Nat.le_refl _) (fun r e => by have := (HOE.out.lt r e).1; omega), ?_⟩
                              rw [gTo_succ, Hgv.out, HNN.out, Hm.out, hsC]; exact Ho.out
                            case measure => simp [intOf] <;> omega
                          · have hjMi : ¬ (jj : Int) < (M : Int) := by omega
                            obtain rfl : jj = M := by omega
                            have y0' : wE.cell? ⟨wA.heap.size, 0, none⟩ = some (.string lu) := (cell_eq (HBE.out.block _ (by omega)) 0).trans y0
                            have hOE2 : wE.ownsMap Ybaz.prog 9 Rh w6.heap.size kk Dl := (HOA.out.kept (grown_of_below HBC.out none) (by simp)).kept (grown_of_below HBE.out none) (by simp)
                            have HOE2 := hid hOE2
                            clear hOE2
                            go_wp2_with (at_mapUpdate; refine wpList_mapUpdate_own _ rfl _ _ _ 85 rfl 9 77 law9' Ybaz.underlying85 Rh w6.heap.size kk Dl rfl HOE2.out (by unfold maxLen; omega) (.string lu) (.slice va jj vc) (.string lu.data.toList) rfl rfl (key9' lu (by unfold maxLen; omega)) (.held (.slice va jj vc)) [] rfl ?_)
                            intro wF hOF hgF
                            have HOF := hid hOF; have HgF := hid hgF
                            clear hOF hgF
                            go_wp2
                            go_roundw
                            case rel =>
                              have hk2 : ∀ b, b < wA.heap.size → b ≠ w6.heap.size → wF.heap[b]? = wA.heap[b]? := fun b hb hne => (HgF.out.block b (by omega) (by simpa using hne)).trans ((HBE.out.block b (by omega)).trans (HBC.out.block b hb))
                              have hsF := HgF.out.size
                              refine ⟨kk + 1, _, by omega, by go_num, HOF.out, ?_, HBA.out.trans ⟨HgF.out.os.trans (HBE.out.os.trans HBC.out.os), HgF.out.tape.trans (HBE.out.tape.trans HBC.out.tape), HgF.out.output.trans (HBE.out.output.trans HBC.out.output), by omega, fun b hb => hk2 b (by omega) (by omega)⟩⟩
                              have := HLA.out.put (v := .slice va jj vc) HOA.out (by rw [Hlu.out]; unfold maxLen; omega) hk2 (by omega) (by
                                rw [HM.out]
                                exact own_base (own_move HOE.out (fun b hb hl => HgF.out.block b hl (fun e => by have := (HOE.out.lt b hb).1; injection e with e; omega))) (by omega))
                              rw [Hlu.out] at this
                              exact this
                            case measure => simp [intOf] <;> omega
                      · have hkLi : ¬ (kk : Int) < (LN : Int) := by omega
                        obtain rfl : kk = LN := by omega
                        go_wp2
                        go_meet
                        case rel =>
                          refine ⟨Dl, kk, HOA.out, ?_, HBA.out⟩
                          have e : listOf D = lstTo D kk := by funext u; unfold listOf; rw [if_pos (by rw [HNN.out]; omega), HLN.out]
                          rw [e]; exact HLA.out
                  · have hN0i : ¬ (0 : Int) < (g : Int) := by omega
                    obtain rfl : g = 0 := by omega
                    go_wp2
                    go_meet
                    case rel =>
                      refine ⟨_, _, HO9.out, ?_, HB9.out⟩
                      have e : listOf D = fun _ => [] := by funext u; unfold listOf; rw [if_neg (by rw [HNN.out]; omega)]
                      rw [e]; exact LRows.start _ _
                case rest =>
                  obtain ⟨Dl, nl, hOl, hLl, hBl⟩ := hcut
                  generalize hwx : wc = w10 at *
                  clear hwx
                  have hsz10 := hBl.size
                  have hlt10 := hOl.lt
                  have hf10 : w10.heap[w.heap.size + 1]? = some (.cells (fileCells w.heap.size (.slice na NN nc) (.map none) (.slice none 0 0)) 106 (0, 0)) := (hBl.block _ (by omega)).trans ((HG6.out.block _ (by omega) (by simp; omega)).trans Hf5.out)
                  have z5 : w10.cell? ⟨w.heap.size + 1, 5, none⟩ = some (.map none) := by rw [cell_of hf10]; rfl
                  have z6 : w10.cell? ⟨w.heap.size + 1, 6, none⟩ = some (.slice none 0 0) := by rw [cell_of hf10]; rfl
                  have z7 : w10.cell? ⟨w.heap.size + 1, 7, none⟩ = some (.slice none 0 0) := by rw [cell_of hf10]; rfl
                  have z8 : w10.cell? ⟨w.heap.size + 1, 8, none⟩ = some (.slice none 0 0) := by rw [cell_of hf10]; rfl
                  have z9 : w10.cell? ⟨w.heap.size + 1, 9, none⟩ = some (.slice none 0 0) := by rw [cell_of hf10]; rfl
                  have z10 : w10.cell? ⟨w.heap.size + 1, 10, none⟩ = some (.int .i64 0) := by rw [cell_of hf10]; rfl
                  have z11 : w10.cell? ⟨w.heap.size + 1, 11, none⟩ = some (.slice none 0 0) := by rw [cell_of hf10]; rfl
                  have q5 := frozen_of hf10 5; have q6 := frozen_of hf10 6; have q7 := frozen_of hf10 7; have q8 := frozen_of hf10 8; have q9 := frozen_of hf10 9; have q10 := frozen_of hf10 10; have q11 := frozen_of hf10 11
                  have HOl := hid hOl; have HLl := hid hLl; have HBl := hid hBl; have Hf10 := hid hf10
                  clear hOl hLl hBl hf10
                  go_wp2
                  go_ret
                  exact build_fin HS.out (by omega) HNN.out HNn.out hwbl hwb5 HG6.out HR5.out HO5.out HSn5.out (fun j hj bb off e => by have := HSlo.out j hj bb off e; omega) HW6.out HOl.out HLl.out HBl.out HB5.out Hf10.out
end Go.Proofs.YbulkchuuGreatDoor
