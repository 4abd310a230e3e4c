import Derived.Test.YbulkchuuGreatDoorP2
import Derived.Maps.AppendAt
namespace Go.Proofs.YbulkchuuGreatDoor
open Go.RowKit
open Go.Sort (PermIn)
set_option linter.unusedVariables false
set_option linter.unusedSimpArgs false
set_option maxRecDepth 100000

/-- the blocks of S are as they were; the row lies in none of them -/
def Kp (S : Nat → Prop) (w w' : World) : Prop := ∀ k, S k → w'.heap[k]? = w.heap[k]?
def Off (S : Nat → Prop) (v : Value) : Prop := ∀ k, v.ownBlock = some k → ¬ S k
def AddPost2 (S : Nat → Prop) (Bd pb sb sl sc n : Nat) (nm ls mm wk : Value) (gl' : List Int) (w : World) (e : Ending) (w' : World) : Prop := e = .returned (.tuple #[]) ∧ ∃ gr' X', Pr Bd pb sb sl n nm ls mm wk gr' sc X' gl' w' ∧ Below Bd w w' ∧ Kp S w w' ∧ Off S gr'

set_option maxHeartbeats 4000000 in
theorem add77s (S : Nat → Prop) (Bd pb sb sl sc n : Nat) (nm ls mm wk gr : Value) (X : Nat → Nat) (gl : List Int) (av : Option Addr) (cp : Nat) (xs : List Int) (w : World) (hpb : Bd ≤ pb) (hsb : Bd ≤ sb) (hsl : n ≤ 64 * sl) (hn : n ≤ 255) (hBw : Bd ≤ w.heap.size)
    (hP : Pr Bd pb sb sl n nm ls mm wk gr sc X gl w) (hx : ReadI Bd av xs w) (hxr : InG n xs) (hxl : xs.length ≤ 1000) (hSl : ∀ k, S k → k < w.heap.size) (hSp : ¬ S pb) (hSs : ¬ S sb) (hSg : Off S gr) :
    Calls Ybaz.prog 77 #[.pointer (some ⟨pb, 0, none⟩), .slice av xs.length cp] w (AddPost2 S Bd pb sb sl sc n nm ls mm wk (addL gl xs) w) := by
  obtain ⟨i1, hi1, hy0, hy1, hy2⟩ := info_parts info21
  have HP := hid hP; have HX := hid hx; have HXr := hid hxr; have HSl := hid hSl; have HSp := hid hSp; have HSs := hid hSs; have HSg := hid hSg
  obtain ⟨N, hN⟩ : ∃ N, xs.length = N := ⟨_, rfl⟩
  rw [hN] at hxl ⊢
  have HN := hid hN
  clear hP hx hxr hN hSl hSp hSs hSg
  go_enter Ybaz.func77, Ybaz.ntmps77
  go_wp2
  go_loopw [9] (fun vk wr => ∃ (k : Nat) (gr' : Value) (X' : Nat → Nat) (gk : List Int), k ≤ N ∧ vk = .int .i64 k ∧ Pr Bd pb sb sl n nm ls mm wk gr' sc X' gk wr ∧ Below Bd w wr ∧ addL gk (xs.drop k) = addL gl xs ∧ Kp S w wr ∧ Off S gr') (fun vk _ => N - (intOf vk).toNat)
  case atStart => exact ⟨0, gr, X, gl, by omega, rfl, HP.out, Below.refl _ _, by simp, fun _ _ => rfl, HSg.out⟩
  case round =>
    generalize wr = wq at *
    obtain ⟨k, gr', X', gk, hk, rfl, hPk, hBk, hA, hKk, hOk⟩ := hrel
    have HPk := hid hPk; have HBk := hid hBk; have HA := hid hA; have HKk := hid hKk; have HOk := hid hOk
    clear hKk hOk
    by_cases hkn : k < N
    · have hki : (k : Int) < (N : Int) := by omega
      obtain ⟨x, hxk⟩ : ∃ x, xs[k]? = some x := ⟨_, List.getElem?_eq_getElem (by rw [HN.out]; exact hkn)⟩
      obtain ⟨bb, off, rfl, hbb, hc0⟩ := HX.out k x hxk
      have hc := (hBk.cell (p := ⟨bb, off + k, none⟩) hbb).trans hc0
      have hxr := HXr.out x (List.mem_of_getElem? hxk)
      obtain ⟨g, rfl⟩ : ∃ g : Nat, x = (g : Int) := ⟨x.toNat, by omega⟩
      have hgn : g < n := by omega
      obtain ⟨cur, hs1, hs2, hs3⟩ := hPk.seen
      obtain ⟨q, hq⟩ : ∃ q, g / 64 = q := ⟨_, rfl⟩
      obtain ⟨r, hr⟩ : ∃ r, g % 64 = r := ⟨_, rfl⟩
      have hqi : ((g : Int) / 64) = (q : Int) := by omega
      have hri : ((g : Int) % 64) = (r : Int) := by omega
      have hql : q < sl := by omega
      have hrl : r < 64 := by omega
      have hcs : wq.cell? ⟨sb, q, none⟩ = some (.int .u64 (X' q : Int)) := by rw [cell_of hs1]; exact (hs3 q hql).1
      have hfs := frozen_of hs1 q
      have hXq := (hs3 q hql).2
      have hp5 : wq.cell? ⟨pb, 5, none⟩ = some (.slice (some ⟨sb, 0, none⟩) sl sc) := by rw [cell_of hPk.blk]; rfl
      have hp3 : wq.cell? ⟨pb, 3, none⟩ = some gr' := by rw [cell_of hPk.blk]; rfl
      have hf3 := frozen_of hPk.blk 3
      have hpow : (2 : Nat) ^ r < 18446744073709551616 := by
        have : (2 : Nat) ^ r < 2 ^ 64 := Nat.pow_lt_pow_right (by omega) hrl
        omega
      have hw := wrap63 r hrl
      have hand := and_u64 (X' q) (2 ^ r) hXq hpow
      have hor := or_u64 (X' q) (2 ^ r) hXq hpow
      have hbit := hPk.bits g (by omega)
      rw [hq, hr] at hbit
      rw [and_bit, hbit] at hand
      have hne : pb ≠ sb := fun e => by
        have h1 := hPk.blk
        rw [e, hs1] at h1
        simp at h1
      have hdrop : addL gk (xs.drop k) = addL (if (g : Int) ∈ gk then gk else gk ++ [(g : Int)]) (xs.drop (k + 1)) := by
        rw [List.drop_eq_getElem_cons (by rw [HN.out]; exact hkn)]
        have : xs[k]'(by rw [HN.out]; exact hkn) = (g : Int) := by
          have h := List.getElem?_eq_getElem (l := xs) (i := k) (by rw [HN.out]; exact hkn)
          rw [h] at hxk
          simpa using hxk
        rw [this]; rfl
      have hsetb : ∀ (y : Nat), y < 18446744073709551616 → SeenAt sb sl (fun k => if k = q then y else X' k) (wq.setCell ⟨sb, q, none⟩ (.int .u64 y)) := fun y hy => hPk.seen.set q y hy
      generalize hP2 : (2 : Nat) ^ r = P2 at *
      by_cases hmem : (g : Int) ∈ gk
      · have hz : (((if decide ((g : Int) ∈ gk) = true then P2 else 0 : Nat) : Int) == 0) = false := by
          have hp0 : 0 < P2 := by rw [← hP2]; exact Nat.pow_pos (by omega)
          simp [hmem]; omega
        rw [hand.symm] at hz
        rw [if_pos hmem] at hdrop
        have HD := hid hdrop
        clear hPk hBk hA hdrop hand hbit hs1 hs2 hs3 hc0 hsetb hor hq hr hP2
        go_wp2
        go_roundw
        case rel => exact ⟨k + 1, gr', X', gk, by omega, by go_num, HPk.out, HBk.out, HD.out.symm.trans HA.out, HKk.out, HOk.out⟩
        case measure => simp [intOf] <;> omega
      · have hz : (((if decide ((g : Int) ∈ gk) = true then P2 else 0 : Nat) : Int) == 0) = true := by simp [hmem]
        rw [hand.symm] at hz
        rw [if_neg hmem] at hdrop
        have hlen := pigeon n gk hPk.nodup hPk.rng
        obtain ⟨O, hO⟩ : ∃ O, X' q ||| P2 = O := ⟨_, rfl⟩
        rw [hO] at hor
        obtain ⟨hor1, hor2⟩ := hor
        have hS1 := hsetb O hor2
        have hB1 := hPk.bits.add (show g < 64 * sl by omega)
        rw [hq, hr, hP2, hO] at hB1
        have hO1 : (wq.setCell ⟨sb, q, none⟩ (.int .u64 O)).ownsRow Bd 21 1 gr' gk.length (I32s gk) := own_move hPk.own (fun g' hg' _ => Below.heap_setCell _ _ _ _ (fun e => own_tag hPk.own hs1 (by decide) (by rw [hg']; simp at e; rw [e])))
        have hbp1 : (wq.setCell ⟨sb, q, none⟩ (.int .u64 O)).heap[pb]? = some (.cells #[nm, ls, mm, gr', wk, .slice (some ⟨sb, 0, none⟩) sl sc] 109 (0, 0)) := (Below.heap_setCell _ _ _ _ (by simpa using hne)).trans hPk.blk
        have hBel1 : Below Bd w (wq.setCell ⟨sb, q, none⟩ (.int .u64 O)) := hBk.setCell (by simpa using hsb) _
        obtain ⟨ao, cap', rfl⟩ := own_slice' hPk.own
        have HS1 := hid hS1; have HB1 := hid hB1; have HO1 := hid hO1; have Hbp1 := hid hbp1; have HBel1 := hid hBel1
        have HD := hid hdrop; have Hnd := hid hPk.nodup; have Hrg := hid hPk.rng; have Hmem := hid hmem
        have hsz1 : (wq.setCell ⟨sb, q, none⟩ (.int .u64 O)).heap.size = wq.heap.size := by simp [World.setCell]
        have hszw := hBk.size
        clear hPk hBk hA hdrop hand hbit hs1 hs2 hs3 hc0 hsetb hq hr hP2 hO hS1 hB1 hO1 hbp1 hBel1 hmem
        go_wp2_with (at_builtin; refine wpList_append_own_at _ rfl _ _ 77 rfl Bd 21 i1 _ 1 4 Ybaz.underlying77 hi1 hy0 hy1 hy2 rfl (by decide) _ _ _ rfl (HO1.out.alloc _) ⟨wq.heap.size, 0, none⟩ 1 1 [.int .i32 g] rfl rfl ?c1 ?c2 ?c3 ?c4 ?c5 ?_)
        case c1 =>
          intro t u ht
          have hnew := heap_alloc_new (wq.setCell ⟨sb, q, none⟩ (.int .u64 O)) (.cells #[.int .i32 g] 21)
          rw [hsz1] at hnew
          rw [Go.WideShapes.add_plain, Nat.zero_add, cell_of hnew]
          simpa using ht
        case c2 => simp [Value.oneCell']
        case c3 => unfold maxLen; omega
        case c4 => omega
        case c5 => first | omega | (simp; omega) | (rw [hsz1]; omega)
        intro v3 w3 ho3 hg3 _ hat3
        obtain ⟨ao3, cap3, rfl⟩ := own_slice' ho3
        generalize hW1 : wq.setCell ⟨sb, q, none⟩ (.int .u64 O) = W1 at *
        have hsz3 := hg3.size
        have hlt1 : pb < W1.heap.size := heap_lt Hbp1.out
        have hlt2 : sb < W1.heap.size := by obtain ⟨c, h1, _⟩ := HS1.out; exact heap_lt h1
        have hbp3 : w3.heap[pb]? = some (.cells #[nm, ls, mm, .slice ao gk.length cap', wk, .slice (some ⟨sb, 0, none⟩) sl sc] 109 (0, 0)) :=
          (hg3.block pb (by simp; omega) (fun e => own_tag HO1.out Hbp1.out (by decide) e.symm)).trans ((Below.heap_alloc _ _ _ hlt1).trans Hbp1.out)
        have hsb3 : w3.heap[sb]? = W1.heap[sb]? :=
          (hg3.block sb (by simp; omega) (fun e => by obtain ⟨c, h1, _⟩ := HS1.out; exact own_tag HO1.out h1 (by decide) e.symm)).trans (Below.heap_alloc _ _ _ hlt2)
        have hB3 : Below Bd w w3 := HBel1.out.trans ⟨hg3.os, hg3.tape, hg3.output, by have := hg3.size; simp at this; omega, fun k hk => (hg3.block k (by simp; omega) (fun e => by have := (World.ownsRow.lt HO1.out k e.symm).1; omega)).trans (Below.heap_alloc _ _ _ (by omega))⟩
        have hKW : Kp S w w3 := fun b hb => by
          have hbl := HSl.out b hb
          rw [hg3.block b (by simp; omega) (fun e => HOk.out b e.symm hb), Below.heap_alloc _ _ _ (by omega), ← hW1, Below.heap_setCell _ _ _ _ (by intro e; simp at e; exact HSs.out (e ▸ hb))]
          exact HKk.out b hb
        have hOf3 : Off S (.slice ao3 (gk.length + 1) cap3) := fun b hb hS => by
          rcases hat3 with e | e
          · rw [e] at hb; exact HOk.out b hb hS
          · rw [e] at hb
            injection hb with hb
            have := HSl.out b hS
            try simp at hb
            omega
        have hKf : Kp S w (w3.setCell ⟨pb, 3, none⟩ (.slice ao3 (gk.length + 1) cap3)) := fun b hb => (Below.heap_setCell _ _ _ _ (by intro e; simp at e; exact HSp.out (e ▸ hb))).trans (hKW b hb)
        have HKf := hid hKf; have HOf3 := hid hOf3
        clear hKW hOf3 hKf hat3
        have hp33 : w3.cell? ⟨pb, 3, none⟩ = some (.slice ao gk.length cap') := by rw [cell_of hbp3]; rfl
        have hf33 := frozen_of hbp3 3
        have hfin : Pr Bd pb sb sl n nm ls mm wk (.slice ao3 (gk.length + 1) cap3) sc (fun k => if k = q then O else X' k) (gk ++ [(g : Int)]) (w3.setCell ⟨pb, 3, none⟩ (.slice ao3 (gk.length + 1) cap3)) := by
          refine ⟨by rw [heap_set hbp3]; rfl, HS1.out.move ((Below.heap_setCell _ _ _ _ (by simpa using hne.symm)).trans hsb3), ?_, HB1.out, ?_, ?_⟩
          · have h := own_move (w' := w3.setCell ⟨pb, 3, none⟩ (.slice ao3 (gk.length + 1) cap3)) ho3 (fun g' hg' _ => Below.heap_setCell _ _ _ _ (fun e => own_tag ho3 hbp3 (by decide) (by rw [hg']; simp at e; rw [e])))
            rw [List.length_append, I32s, List.map_append]
            exact h
          · rw [List.pairwise_append]
            exact ⟨Hnd.out, by simp, fun x hx y hy e => by simp at hy; subst hy; subst e; exact Hmem.out hx⟩
          · intro x hx
            rw [List.mem_append] at hx
            rcases hx with hx | hx
            · exact Hrg.out x hx
            · simp at hx; subst hx; omega
        have hBf : Below Bd w (w3.setCell ⟨pb, 3, none⟩ (.slice ao3 (gk.length + 1) cap3)) := hB3.setCell (by simpa using hpb) _
        have HFin := hid hfin; have HBf := hid hBf
        clear ho3 hg3 hbp3 hsb3 hB3 hfin hBf
        go_wp2
        go_roundw
        case rel => exact ⟨k + 1, _, _, _, by omega, by go_num, HFin.out, HBf.out, HD.out.symm.trans HA.out, HKf.out, HOf3.out⟩
        case measure => simp [intOf] <;> omega
    · have hki : (N : Int) ≤ (k : Int) := by omega
      have hki2 : ¬ (k : Int) < (N : Int) := by omega
      clear hPk hBk hA
      go_wp2
      go_end0
      have hAe : addL gl xs = gk := by
        rw [← HA.out, List.drop_eq_nil_of_le (by rw [HN.out]; omega)]; rfl
      exact ⟨rfl, gr', X', by rw [hAe]; exact HPk.out, HBk.out, HKk.out, HOk.out⟩
end Go.Proofs.YbulkchuuGreatDoor
