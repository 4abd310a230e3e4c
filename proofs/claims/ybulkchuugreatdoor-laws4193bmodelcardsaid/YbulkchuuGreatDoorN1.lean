import Derived.Test.YbulkchuuGreatDoorB3
import Derived.Test.YbulkchuuGreatDoorK1
import Derived.Test.YbulkchuuGreatDoorP1
import Derived.Deep.Cut
import Derived.Deep.CutRange
import Derived.Sort.KeysCollected
namespace Go.Proofs.YbulkchuuGreatDoor
open Go.RowKit Go.Maps
set_option linter.unusedVariables false
set_option linter.unusedSimpArgs false
set_option maxRecDepth 100000

theorem toList_ne {nm : ByteArray} (h : nm ≠ ⟨#[]⟩) : nm.toList.isEmpty = false := by
  rw [ByteArray.toList_eq]
  cases hl : nm.data.toList with
  | nil => exact absurd (ByteArray.ext (by simpa using hl)) h
  | cons _ _ => rfl
theorem strKeys_set {w : World} {b n : Nat} {D : DataW Value} (ho : w.ownsMap Ybaz.prog 9 Rh b n D) : (strKeys D).Nodup ∧ ∀ x, x ∈ strKeys D ↔ Maps.has D (.string x) = true := by
  obtain ⟨es, hD, hpw, _⟩ := ho.entries law9'
  obtain ⟨es', hD', hko⟩ := ho.keysOf
  obtain rfl : es = es' := by rw [hD] at hD'; simpa using hD'
  subst hD
  have hk : ∀ p ∈ es, ∃ x, p.1 = .string x := fun p hp => by
    obtain ⟨v, hv⟩ := hko p hp
    obtain ⟨x, _, hx, _⟩ := Maps.keyOf_str Ybaz.underlying9 hv
    exact ⟨x, hx⟩
  refine ⟨?_, fun x => ?_⟩
  · show (es.map fun p => strOf p.1).Nodup
    refine List.pairwise_map.2 (hpw.imp_of_mem fun {p q} hp' hq' hne e => hne ?_)
    obtain ⟨a, ha⟩ := hk p hp'
    obtain ⟨b, hb⟩ := hk q hq'
    rw [ha, hb] at e ⊢
    exact congrArg _ e
  · rw [has_eq, List.any_eq_true]
    show x ∈ (es.map fun p => strOf p.1) ↔ _
    rw [List.mem_map]
    constructor
    · rintro ⟨p, hp', rfl⟩
      obtain ⟨a, ha⟩ := hk p hp'
      exact ⟨p, hp', by rw [ha]; simp [Lit.sameKey, strOf]⟩
    · rintro ⟨p, hp', hs⟩
      obtain ⟨a, ha⟩ := hk p hp'
      rw [ha] at hs
      exact ⟨p, hp', by rw [ha]; simpa [Lit.sameKey, strOf] using hs⟩
theorem sorted_le (l : List (List UInt8)) : (l.mergeSort leB).Pairwise (fun a b => leB a b = true) :=
  List.pairwise_mergeSort (fun a b c h1 h2 => by simp only [leB, decide_eq_true_eq] at *; exact List.le_trans h1 h2) (fun a b => by simp only [leB, Bool.or_eq_true, decide_eq_true_eq]; exact List.le_total a b) l
/-- a step of the range over a file's rules -/
theorem wpList_next_rules (w : World) {ops : Array Oper} {rest : List Oper} {o : Oper} {a : Act} {Q : Exit → Act → World → Prop} (hg : o.guard = none) (it : Operand) (hop : o.op = Op.next it false) (b r n : Nat) (Dm : DataW Value) (left : Lit → Bool) (cnt : Nat)
    (hit : a.eval it = .pointer (some ⟨r, 0, none⟩)) (h : w.ranges Ybaz.prog 125 Rh b r n Dm left cnt)
    (hAll : ∀ kl, Maps.has Dm kl = true → ∃ rr p q, keyOf Ybaz.prog 125 (rkey rr p) = some kl ∧ ∀ z, Dm.atKey kl z = .held (.pointer (some ⟨q, 0, none⟩)))
    (hDone : cnt = 0 → (∀ kl, left kl = false) → wpList Ybaz.prog ops Q rest (a.put o.dst (.tuple #[.bool false])) w)
    (hMore : ∀ (rr p : ByteArray) (q : Nat) (kl : Lit) (w' : World) (cnt' : Nat), keyOf Ybaz.prog 125 (rkey rr p) = some kl → Maps.has Dm kl = true → left kl = true → (∀ z, Dm.atKey kl z = .held (.pointer (some ⟨q, 0, none⟩))) → w'.ranges Ybaz.prog 125 Rh b r n Dm (fun z => left z && !z.sameKey kl) cnt' → cnt' < cnt →
      w.grownBy w' (some r) → w'.heap.size = w.heap.size → (Instr.entry (.pointer (some ⟨r, 0, none⟩))).run Ybaz.prog w' = .ok (.tuple #[.agg #[.string rr, .string p, .bool false], .pointer (some ⟨q, 0, none⟩)]) w' → wpList Ybaz.prog ops Q rest (a.put o.dst (.tuple #[.bool true, .agg #[.string rr, .string p, .bool false], .pointer (some ⟨q, 0, none⟩)])) w') :
    wpList Ybaz.prog ops Q (o :: rest) a w := by
  refine wpList_next_ranges w hg it hop 125 law125 Rh (fun x : Value => x) (fun x : Value => x) (fun key _ _ => ⟨key, rfl⟩) (fun v _ _ => ⟨v, rfl⟩) b r n Dm left cnt hit h hDone ?_
  intro x c kl y w' cnt' hk hl hR hat hrg hlt hgr hsz hen
  have hhas : Maps.has Dm kl = true := has_true_of_atKey hat
  obtain ⟨rr, p, q, hk2, hat2⟩ := hAll kl hhas
  have e1 : x = rkey rr p := law125.inj hk hk2
  have e2 : c = .pointer (some ⟨q, 0, none⟩) := by
    have h1 := hat (.held c)
    rw [hat2] at h1
    simp only [Rh, Option.some.injEq] at hR
    rw [← hR] at h1
    injection h1 with h1
    exact h1.symm
  subst e1 e2
  exact hMore rr p q kl w' cnt' hk hhas hl hat2 hrg hlt hgr hsz hen
theorem flat7 (f : Nat → List Value) (hf : ∀ i, (f i).length = 7) : ∀ (j t c : Nat), t < j → c < 7 → ((List.range j).flatMap f)[t * 7 + c]? = (f t)[c]?
  | 0, t, c, h, _ => by omega
  | j + 1, t, c, h, hc => by
    have hl : ∀ j, ((List.range j).flatMap f).length = j * 7 := by
      intro j
      induction j with
      | zero => simp
      | succ j ih => rw [List.range_succ, List.flatMap_append, List.length_append, ih]; simp [hf]; omega
    rw [List.range_succ, List.flatMap_append]
    by_cases e : t < j
    · rw [List.getElem?_append_left (by rw [hl]; omega)]
      exact flat7 f hf j t c e hc
    · obtain rfl : t = j := by omega
      rw [List.getElem?_append_right (by rw [hl]; omega), hl]
      have : t * 7 + c - t * 7 = c := by omega
      rw [this]
      simp
theorem flat7_len (f : Nat → List Value) (hf : ∀ i, (f i).length = 7) (j : Nat) : ((List.range j).flatMap f).length = j * 7 := by
  induction j with
  | zero => simp
  | succ j ih => rw [List.range_succ, List.flatMap_append, List.length_append, ih]; simp [hf]; omega
/-- the t-th entry -/
theorem entAt (D : DIn) (t : Nat) (ht : t < nEnts D) : ∃ kd nm g, (∀ c, c < 7 → (allEnts D)[t * 7 + c]? = (ent kd nm g)[c]?) ∧ ((t < D.un ∧ kd = 3 ∧ nm = D.user t ∧ g = 0) ∨ (D.un ≤ t ∧ kd = 4 ∧ nm = ⟨#[103]⟩ ∧ 0 < D.n ∧ t - D.un < D.gn ∧ g = D.grp (t - D.un) % D.n)) := by
  by_cases h : t < D.un
  · refine ⟨3, D.user t, 0, fun c hc => ?_, .inl ⟨h, rfl, rfl, rfl⟩⟩
    unfold allEnts
    rw [List.getElem?_append_left (by unfold userEnts; rw [flat7_len _ (fun _ => rfl)]; omega)]
    exact flat7 (fun i => ent 3 (D.user i) 0) (fun _ => rfl) D.un t c h hc
  · unfold nEnts at ht
    by_cases hn : 0 < D.n
    · rw [if_pos hn] at ht
      refine ⟨4, ⟨#[103]⟩, D.grp (t - D.un) % D.n, fun c hc => ?_, .inr ⟨by omega, rfl, rfl, hn, by omega, rfl⟩⟩
      unfold allEnts
      rw [if_pos hn, List.getElem?_append_right (by unfold userEnts; rw [flat7_len _ (fun _ => rfl)]; omega)]
      have e : t * 7 + c - (userEnts D D.un).length = (t - D.un) * 7 + c := by unfold userEnts; rw [flat7_len _ (fun _ => rfl)]; omega
      rw [e]
      exact flat7 (fun i => ent 4 ⟨#[103]⟩ (D.grp i % D.n)) (fun _ => rfl) D.gn (t - D.un) c (by omega) hc
    · rw [if_neg hn] at ht
      omega
/-! ### a set of strings -/
def inS (Ds : DataW Value) (x : List UInt8) : Prop := Maps.has Ds (.string x) = true
theorem inS_put {w : World} {sb n : Nat} {Ds : DataW Value} (ho : w.ownsMap Ybaz.prog 9 Rh sb n Ds) (u : ByteArray) (hu : u.size ≤ maxLen) (d : DataW Value) (x : List UInt8) : inS (Ds.put (.string u.data.toList) d) x ↔ inS Ds x ∨ x = u.data.toList := by
  unfold inS
  by_cases e : x = u.data.toList
  · subst e
    simp only [or_true, iff_true]
    exact has_put_same ho.isMap (law9'.key (key9' u hu)) d
  · have hne : Lit.string x ≠ .string u.data.toList := fun h => e (by injection h)
    rw [has_put_other hne]
    simp [e]
def NamedTo (D : DIn) (k : Nat) (x : List UInt8) : Prop := ∃ j, j < k ∧ x = (D.named j).data.toList
def UserTo (D : DIn) (k : Nat) (x : List UInt8) : Prop := ∃ j, j < k ∧ D.user j ≠ ⟨#[]⟩ ∧ x = (D.user j).data.toList
def NameIn (D : DIn) (x : List UInt8) : Prop := NamedTo D D.nn x ∨ UserTo D D.un x
theorem NamedTo.succ {D : DIn} {k : Nat} {x : List UInt8} : NamedTo D (k + 1) x ↔ NamedTo D k x ∨ x = (D.named k).data.toList := by
  constructor
  · rintro ⟨j, hj, h⟩
    by_cases e : j = k
    · subst e; exact .inr h
    · exact .inl ⟨j, by omega, h⟩
  · rintro (⟨j, hj, h⟩ | h)
    · exact ⟨j, by omega, h⟩
    · exact ⟨k, by omega, h⟩
theorem UserTo.succ {D : DIn} {k : Nat} {x : List UInt8} : UserTo D (k + 1) x ↔ UserTo D k x ∨ (D.user k ≠ ⟨#[]⟩ ∧ x = (D.user k).data.toList) := by
  constructor
  · rintro ⟨j, hj, h⟩
    by_cases e : j = k
    · subst e; exact .inr h
    · exact .inl ⟨j, by omega, h⟩
  · rintro (⟨j, hj, h⟩ | h)
    · exact ⟨j, by omega, h⟩
    · exact ⟨k, by omega, h⟩
/-- the set of names: those of the first k files -/
def SetTo (DD : Nat → DIn) (k : Nat) (x : List UInt8) : Prop := ∃ i, i < k ∧ NameIn (DD i) x
/-- the two files -/
structure Files (Bd : Nat) (fb : Nat → Nat) (DD : Nat → DIn) (lst : Nat → ByteArray → List Int) (WW : Nat → Nat → List Int) (w : World) : Prop where
  file : ∀ i, i < 2 → FileAt Bd (fb i) (DD i) (lst i) (WW i) w
  small : ∀ i, i < 2 → Small (DD i)
theorem Files.below {Bd : Nat} {fb : Nat → Nat} {DD : Nat → DIn} {lst : Nat → ByteArray → List Int} {WW : Nat → Nat → List Int} {w w' : World} (h : Files Bd fb DD lst WW w) (hb : Below Bd w w') : Files Bd fb DD lst WW w' := ⟨fun i hi => (h.file i hi).below hb, h.small⟩
/-- the sizes of all names of a file -/
structure NamesOk (D : DIn) : Prop where
  named : ∀ j, j < D.nn → (D.named j).size ≤ 140737488351232
  user : ∀ j, j < D.un → (D.user j).size ≤ 140737488351232
  repo : ∀ j, j < D.rn → (D.repo j).size ≤ 140737488351232
theorem InD.names {Bd : Nat} {D : DIn} {w : World} (h : InD Bd D w) : NamesOk D :=
  ⟨fun j hj => (h.named j hj).choose_spec.choose_spec.2.2.2, fun j hj => (h.user j hj).choose_spec.choose_spec.2.2.2, fun j hj => (h.repo j hj).choose_spec.choose_spec.2.2.2⟩
/-- what userNames returns -/
def NamesPost (DD : Nat → DIn) (w : World) (e : Ending) (w' : World) : Prop := ∃ (v : Value) (ss : List (List UInt8)) (lg : Nat), e = .returned (.tuple #[v, .string ⟨(Lib.repeatL [63] (lg + 1)).toArray⟩]) ∧ w'.ownsRow w.heap.size 9 1 v ss.length (ss.map encStr) ∧
  ss.Pairwise (fun a b => decide (a ≤ b) = true) ∧ ss.Nodup ∧ (∀ x, x ∈ ss ↔ SetTo DD 2 x) ∧ (∀ x ∈ ss, x.length ≤ lg) ∧ (lg = 0 ∨ ∃ x ∈ ss, x.length = lg) ∧ lg ≤ 140737488351232 ∧ ss.length ≤ 600000 ∧ Below w.heap.size w w'

set_option maxHeartbeats 16000000 in
theorem userNames28 (Bd ab : Nat) (fb : Nat → Nat) (DD : Nat → DIn) (lst : Nat → ByteArray → List Int) (WW : Nat → Nat → List Int) (w : World) (hBw : Bd ≤ w.heap.size) (hF : Files Bd fb DD lst WW w) (hN : ∀ i, i < 2 → NamesOk (DD i)) (T : TypeId)
    (hab : w.heap[ab]? = some (.cells #[.pointer (some ⟨fb 0, 0, none⟩), .pointer (some ⟨fb 1, 0, none⟩)] T (0, 0))) :
    Calls Ybaz.prog 28 #[.slice (some ⟨ab, 0, none⟩) 2 2] w (NamesPost DD w) := by
  have hmm := @run_makeMap Ybaz.prog
  have HF := hid hF; have HN := hid hN; have Hab := hid hab
  have hal := heap_lt hab
  clear hF hN hab
  go_enter Ybaz.func28, Ybaz.ntmps28
  go_wp2
  generalize hW1 : w.alloc (Obj.map #[] 0) = W1
  have hW1s : W1.heap.size = w.heap.size + 1 := by rw [← hW1]; simp
  have hW1B : Below w.heap.size w W1 := by rw [← hW1]; exact (Below.refl _ w).alloc (Nat.le_refl _) _
  have hW1o : W1.ownsMap Ybaz.prog 9 Rh w.heap.size 0 (.map []) := by rw [← hW1]; exact World.ownsMap_made w Ybaz.prog 9 Rh
  have HB1 := hid hW1B; have HO1 := hid hW1o
  clear hW1 hW1B hW1o
  go_loopw [19] (fun vk wr => ∃ (i : Nat) (Ds : DataW Value) (n : Nat), i ≤ 2 ∧ vk = .int .i64 i ∧ Below w.heap.size w wr ∧ wr.ownsMap Ybaz.prog 9 Rh w.heap.size n Ds ∧ n ≤ i * 300000 ∧ ∀ x, inS Ds x ↔ SetTo DD i x) (fun vk _ => 2 - (intOf vk).toNat)
  case atStart => exact ⟨0, .map [], 0, by omega, rfl, HB1.out, HO1.out, by omega, fun x => ⟨fun h => by simp [inS, Maps.has] at h, fun ⟨i, hi, _⟩ => by omega⟩⟩
  case round =>
    generalize wr = wq at *
    obtain ⟨i, Ds, n, hi, rfl, hB, hO, hn, hset⟩ := hrel
    have HB := hid hB; have HO := hid hO; have HSet := hid hset
    have hszq := hB.size
    have hltq := hO.lt
    clear hB hO hset
    by_cases hi2 : i < 2
    · have hii : (i : Int) < 2 := by omega
      have hfile := (HF.out.below (HB.out.mono hBw)).file i hi2
      have hcab : wq.cell? ⟨ab, i, none⟩ = some (.pointer (some ⟨fb i, 0, none⟩)) := by
        rw [cell_of ((HB.out.block ab hal).trans Hab.out)]
        have : i = 0 ∨ i = 1 := by omega
        rcases this with rfl | rfl <;> rfl
      obtain ⟨na, nc, hnam, hrow⟩ := hfile.named
      obtain ⟨NN, hNN⟩ : ∃ x, (DD i).nn = x := ⟨_, rfl⟩
      have HNN := hid hNN
      have hNN3 : NN ≤ 300 := by have := (HF.out.small i hi2).nn; omega
      rw [hNN] at hnam
      have Hfile := hid hfile; have Hrow := hid hrow
      have hfbl := hfile.lt
      clear hfile hrow hNN
      go_wp2
      go_loopw [28] (fun vk wr => ∃ (j : Nat) (Ds : DataW Value) (n' : Nat), j ≤ NN ∧ vk = .int .i64 j ∧ Below w.heap.size w wr ∧ wr.ownsMap Ybaz.prog 9 Rh w.heap.size n' Ds ∧ n' ≤ i * 300000 + j ∧ ∀ x, inS Ds x ↔ (SetTo DD i x ∨ NamedTo (DD i) j x)) (fun vk _ => NN - (intOf vk).toNat)
      case atStart => exact ⟨0, Ds, n, by omega, rfl, HB.out, HO.out, Nat.le_trans hn (Nat.le_add_right _ _), fun x => by rw [HSet.out x]; exact ⟨.inl, fun h => h.elim id (fun ⟨j, hj, _⟩ => by omega)⟩⟩
      case round =>
        generalize wr = wz at *
        obtain ⟨j, Dz, nz, hj, rfl, hBz, hOz, hnz, hsetz⟩ := hrel
        have HBz := hid hBz; have HOz := hid hOz; have HSetz := hid hsetz
        have hszz := hBz.size
        have hltz := hOz.lt
        clear hBz hOz hsetz
        by_cases hjn : j < NN
        · have hji : (j : Int) < (NN : Int) := by omega
          obtain ⟨bb, off, e1, hbb, s0, s1⟩ := Hrow.out j (by have := HNN.out; omega)
          have hbw : bb < w.heap.size := by omega
          have d0 : wz.cell? ⟨bb, off + j, none⟩ = some (.string ((DD i).named j)) := ((HBz.out.cell (p := ⟨bb, off + j, none⟩) hbw).trans (HB.out.cell (p := ⟨bb, off + j, none⟩) hbw).symm).trans s0
          subst e1
          obtain ⟨u, hu⟩ : ∃ x, (DD i).named j = x := ⟨_, rfl⟩
          rw [hu] at d0 s1
          have Hu := hid hu
          clear s0 hu
          go_wp2_with (at_mapUpdate; refine wpList_mapUpdate_own _ rfl _ _ _ 137 rfl 9 93 law9' Ybaz.underlying137 Rh w.heap.size nz Dz rfl HOz.out (by unfold maxLen; omega) (.string u) (.agg #[]) (.string u.data.toList) rfl rfl (key9' u (by unfold maxLen; omega)) (.held (.agg #[])) [] rfl ?_)
          intro wF hOF hgF
          have HOF := hid hOF; have HgF := hid hgF
          clear hOF hgF
          go_wp2
          go_roundw
          case rel =>
            refine ⟨j + 1, _, nz + 1, by omega, by go_num, below_grown HBz.out HgF.out (Nat.le_refl _) (fun r e => by injection e with e; omega), HOF.out, by omega, fun x => ?_⟩
            rw [inS_put HOz.out u (by unfold maxLen; omega), HSetz.out x, NamedTo.succ, Hu.out, or_assoc]
          case measure => simp [intOf] <;> omega
        · have hji : ¬ (j : Int) < (NN : Int) := by omega
          obtain rfl : j = NN := by omega
          have hfz := (HF.out.below (HBz.out.mono hBw)).file i hi2
          obtain ⟨rb, Dm, k, hrb, hrbB, hOr, hRi, hk4⟩ := hfz.rules
          have HOr := hid hOr; have HRi := hid hRi
          clear hOr hRi hfz
          go_wp2_with (first | (at_range; refine wpList_range_own _ rfl _ 89 rfl 125 126 law125 Ybaz.underlying89 Rh rb k Dm rfl HOr.out ?_; intro w0 hrg0 hg0 hs0) | go_in)
          obtain ⟨r, hr⟩ : ∃ x, wz.heap.size = x := ⟨_, rfl⟩
          rw [hr] at hrg0 ⊢
          have hB0 : Below w.heap.size w w0 := below_grown HBz.out hg0 (Nat.le_refl _) (fun r e => by cases e)
          have hO0 : w0.ownsMap Ybaz.prog 9 Rh w.heap.size nz Dz := HOz.out.kept hg0 (by simp)
          have hrS : w.heap.size < r := by omega
          have hsize := HOr.out.size_le
          have hent : nEnts (DD i) ≤ 600 := by
            unfold nEnts
            have h1 := (HF.out.small i hi2).un
            have h2 := (HF.out.small i hi2).gn
            split <;> omega
          obtain ⟨ea, ec, hER, hAll, hRep, pS, qS, kS, hkS, hhS, hatS, _, hqS, hcS⟩ := HRi.out
          have HER := hid hER; have HAll := hid hAll; have HatS := hid hatS; have HcS := hid hcS
          have Hrg0 := hid hrg0; have HB0 := hid hB0; have HO0 := hid hO0
          clear hrg0 hg0 hs0 hB0 hO0 hER hAll hRep hkS hatS hcS HOr hr
          try go_frame
          go_loopw [41] (fun _ wr => ∃ (left : Lit → Bool) (cnt n' : Nat) (Ds : DataW Value), wr.ranges Ybaz.prog 125 Rh rb r k Dm left cnt ∧ Below w.heap.size w wr ∧ wr.ownsMap Ybaz.prog 9 Rh w.heap.size n' Ds ∧ n' + 600 * cnt ≤ i * 300000 + 300 + 600 * k ∧
            (∀ x, inS Ds x → SetTo DD i x ∨ NamedTo (DD i) j x ∨ UserTo (DD i) (DD i).un x) ∧ (∀ x, (SetTo DD i x ∨ NamedTo (DD i) j x) → inS Ds x) ∧ (left kS = false → ∀ x, UserTo (DD i) (DD i).un x → inS Ds x)) (fun _ wr => wr.rangeLeft rb r)
          case atStart =>
            refine ⟨_, _, nz, Dz, Hrg0.out, HB0.out, HO0.out, by omega, fun x hx => ?_, fun x hx => (HSetz.out x).2 hx, fun h x hx => ?_⟩
            · rcases (HSetz.out x).1 hx with h | h
              · exact .inl h
              · exact .inr (.inl h)
            · rw [hhS] at h; cases h
          case round =>
            generalize wr = wy at *
            obtain ⟨left, cnt, ny, Dy, hrg, hBy, hOy, hny, hs1, hs2, hs3⟩ := hrel
            have Hrg := hid hrg; have HBy := hid hBy; have HOy := hid hOy; have Hs1 := hid hs1; have Hs2 := hid hs2; have Hs3 := hid hs3
            have hltr := hrg.owns.lt
            clear hrg hBy hOy hs1 hs2 hs3
            go_wp2_with (first | (at_next; refine wpList_next_rules _ rfl _ rfl rb r k Dm left cnt rfl Hrg.out (fun kl hk => by obtain ⟨r1, p1, q1, e1, e2, _⟩ := HAll.out kl hk; exact ⟨r1, p1, q1, e1, e2⟩) ?_ ?_) | go_in)
            · intro hc0 hl0
              have Hl0 := hid hl0
              clear hl0
              go_wp2
              go_roundw
              case rel =>
                refine ⟨i + 1, Dy, ny, by omega, by go_num, HBy.out, HOy.out, by omega, fun x => ?_⟩
                have hun := Hs3.out (Hl0.out kS) x
                constructor
                · intro hx
                  rcases Hs1.out x hx with ⟨i', h1, h2⟩ | h | h
                  · exact ⟨i', by omega, h2⟩
                  · exact ⟨i, by omega, .inl (by rw [HNN.out]; exact h)⟩
                  · exact ⟨i, by omega, .inr h⟩
                · rintro ⟨i', h1, h2⟩
                  by_cases e : i' = i
                  · subst e
                    rcases h2 with h | h
                    · rw [HNN.out] at h; exact Hs2.out x (.inr h)
                    · exact hun h
                  · exact Hs2.out x (.inl ⟨i', by omega, h2⟩)
              case measure => simp [intOf] <;> omega
            · intro rr p q kl w1 cnt1 hkk hhas hlk hat hrg1 hlt hg1 hs1 hen
              have hB1y : Below w.heap.size w w1 := below_grown HBy.out hg1 (Nat.le_refl _) (fun r e => by injection e with e; omega)
              have hO1y : w1.ownsMap Ybaz.prog 9 Rh w.heap.size ny Dy := HOy.out.kept hg1 (by simp; omega)
              have hcq : ∃ A ne C, w1.cell? ⟨q, 7, none⟩ = some (.slice A ne C) ∧ ne ≤ nEnts (DD i) ∧ (ne = 0 ∨ A = ea) ∧ (kl = kS → ne = nEnts (DD i)) := by
                have hqq : ∀ q', q' < Bd → w1.cell? ⟨q', 7, none⟩ = wz.cell? ⟨q', 7, none⟩ := fun q' hq' => (hB1y.cell (p := ⟨q', 7, none⟩) (by show q' < w.heap.size; omega)).trans (HBz.out.cell (p := ⟨q', 7, none⟩) (by show q' < w.heap.size; omega)).symm
                have hqe : ∀ q', (∀ z, Dm.atKey kl z = .held (.pointer (some ⟨q', 0, none⟩))) → q' = q := fun q' h => by
                  have h1 := h (.map [])
                  rw [hat] at h1
                  injection h1 with h1; injection h1 with h1; injection h1 with h1; injection h1 with h1
                  exact h1.symm
                by_cases ek : kl = kS
                · have := hqe qS (by rw [ek]; exact HatS.out)
                  subst this
                  exact ⟨ea, _, ec, by rw [hqq _ hqS]; exact HcS.out, Nat.le_refl _, .inr rfl, fun _ => rfl⟩
                · obtain ⟨r1, p1, q1, _, e2, _, _, hq1, hc⟩ := HAll.out kl hhas
                  have := hqe q1 e2
                  subst this
                  rcases hc with hc | hc
                  · exact ⟨none, 0, 0, by rw [hqq _ hq1]; exact hc, by omega, .inl rfl, fun h => absurd h ek⟩
                  · exact ⟨ea, _, ec, by rw [hqq _ hq1]; exact hc, Nat.le_refl _, .inr rfl, fun h => absurd h ek⟩
              obtain ⟨A, ne, C, hc7, hne, hneA, hneS⟩ := hcq
              have HneA := hid hneA; have HneS := hid hneS; have Hrg1 := hid hrg1; have HB1y := hid hB1y; have HO1y := hid hO1y; have Hlk := hid hlk
              clear hneA hneS hrg1 hB1y hO1y hkk hhas hlk hat hg1
              go_wp2
              go_loopw [50] (fun vk wr => ∃ (t : Nat) (Ds : DataW Value) (n' : Nat), t ≤ ne ∧ vk = .int .i64 t ∧ wr.ranges Ybaz.prog 125 Rh rb r k Dm (fun z => left z && !z.sameKey kl) cnt1 ∧ Below w.heap.size w wr ∧ wr.ownsMap Ybaz.prog 9 Rh w.heap.size n' Ds ∧ n' ≤ ny + t ∧ ∀ x, inS Ds x ↔ (inS Dy x ∨ UserTo (DD i) (min t (DD i).un) x)) (fun vk _ => ne - (intOf vk).toNat)
              case atStart => exact ⟨0, Dy, ny, by omega, rfl, Hrg1.out, HB1y.out, HO1y.out, by omega, fun x => ⟨.inl, fun h => h.elim id (fun ⟨j, hj, _⟩ => by omega)⟩⟩
              case round =>
                generalize wr = wv at *
                obtain ⟨t, Dv, nv, ht, rfl, hrv, hBv, hOv, hnv, hsv⟩ := hrel
                have Hrv := hid hrv; have HBv := hid hBv; have HOv := hid hOv; have Hsv := hid hsv
                have hltv := hOv.lt
                have hszv := hBv.size
                clear hrv hBv hOv hsv
                by_cases htn : t < ne
                · have hti : (t : Int) < (ne : Int) := by omega
                  obtain ⟨kd, nm, gg, hcells, hkind⟩ := entAt (DD i) t (by omega)
                  have hAe : A = ea := HneA.out.resolve_left (by omega)
                  obtain ⟨bb, hbe, _, hbbB, _⟩ := HER.out (t * 7 + 0) _ ((hcells 0 (by omega)).trans rfl)
                  have hcl : ∀ c u, c < 7 → (ent kd nm gg)[c]? = some u → wv.cell? ⟨bb, t * 7 + c, none⟩ = some u := fun c u hc hu => by
                    obtain ⟨b', e1, _, e2, e3⟩ := HER.out (t * 7 + c) u ((hcells c hc).trans hu)
                    rw [hbe] at e1; injection e1 with e1; injection e1 with e1
                    subst e1
                    exact ((HBv.out.cell (p := ⟨bb, t * 7 + c, none⟩) (by show bb < w.heap.size; omega)).trans (HBz.out.cell (p := ⟨bb, t * 7 + c, none⟩) (by show bb < w.heap.size; omega)).symm).trans e3
                  have x0 := hcl 0 _ (by omega) rfl
                  have x1 := hcl 1 _ (by omega) rfl
                  have x2 := hcl 2 _ (by omega) rfl
                  have x3 := hcl 3 _ (by omega) rfl
                  have x4 := hcl 4 _ (by omega) rfl
                  have x5 := hcl 5 _ (by omega) rfl
                  have x6 := hcl 6 _ (by omega) rfl
                  rw [Nat.add_zero] at x0
                  rw [hAe, hbe]
                  obtain ⟨wU, hwU⟩ : ∃ x, wv.alloc (Obj.cells #[.int .u8 kd, .string nm, .int .i32 gg, .bool false, .int .u8 0, .int .i64 0, .string ⟨#[]⟩] 136) = x := ⟨_, rfl⟩
                  have hbU : wU.heap[wv.heap.size]? = some (.cells #[.int .u8 kd, .string nm, .int .i32 gg, .bool false, .int .u8 0, .int .i64 0, .string ⟨#[]⟩] 136 (0, 0)) := by rw [← hwU]; exact heap_alloc_new _ _
                  have y0 : wU.cell? ⟨wv.heap.size, 0, none⟩ = some (.int .u8 kd) := by rw [cell_of hbU]; rfl
                  have y1 : wU.cell? ⟨wv.heap.size, 1, none⟩ = some (.string nm) := by rw [cell_of hbU]; rfl
                  have HrU := hid (show wU.ranges Ybaz.prog 125 Rh rb r k Dm (fun z => left z && !z.sameKey kl) cnt1 by rw [← hwU]; exact Hrv.out.alloc _)
                  have HBU := hid (show Below w.heap.size w wU by rw [← hwU]; exact HBv.out.alloc hszv _)
                  have HOU := hid (show wU.ownsMap Ybaz.prog 9 Rh w.heap.size nv Dv by rw [← hwU]; exact HOv.out.alloc _)
                  have Hkind := hid hkind; have HwU := hid hwU
                  clear hcells hkind hAe hbe hcl hbU hwU
                  go_upto_region 16 with fail
                  rw [HwU.out]
                  by_cases hu3 : t < (DD i).un ∧ nm ≠ ⟨#[]⟩
                  · have hkd : kd = 3 := by rcases Hkind.out with h | h <;> omega
                    have hnu : nm = (DD i).user t := by rcases Hkind.out with h | h; exact h.2.2.1; omega
                    have hsz : nm.size ≤ 140737488351232 := by rw [hnu]; exact (HN.out i hi2).user t hu3.1
                    have Hnu := hid hnu; have Hu3 := hid hu3
                    have hnn := toList_ne hu3.2
                    subst hkd
                    clear hnu hu3
                    go_wp2_with (at_mapUpdate; refine wpList_mapUpdate_own _ rfl _ _ _ 137 rfl 9 93 law9' Ybaz.underlying137 Rh w.heap.size nv Dv rfl HOU.out (by unfold maxLen; omega) (.string nm) (.agg #[]) (.string nm.data.toList) rfl rfl (key9' nm (by unfold maxLen; omega)) (.held (.agg #[])) [] rfl ?_)
                    intro wF hOF hgF
                    have HOF := hid hOF; have HgF := hid hgF
                    clear hOF hgF
                    go_wp2
                    go_roundw
                    case rel =>
                      refine ⟨t + 1, _, nv + 1, by omega, by go_num, HrU.out.kept HgF.out (by simp; omega) (by simp; omega), below_grown HBU.out HgF.out (Nat.le_refl _) (fun r e => by injection e with e; omega), HOF.out, by omega, fun x => ?_⟩
                      have hm : min (t + 1) (DD i).un = t + 1 ∧ min t (DD i).un = t := by have := Hu3.out.1; omega
                      rw [inS_put HOU.out nm (by unfold maxLen; omega), Hsv.out x, hm.1, hm.2, UserTo.succ, ← Hnu.out, or_assoc]
                      have := Hu3.out.2
                      simp [this]
                    case measure => simp [intOf] <;> omega
                  · have hkd : kd ≠ 3 ∨ nm = ⟨#[]⟩ := by
                      by_cases h1 : nm = ⟨#[]⟩
                      · exact .inr h1
                      · rcases Hkind.out with h | h
                        · exact absurd ⟨h.1, h1⟩ hu3
                        · left; omega
                    have Hu3 := hid hu3
                    have hun : ∀ x, UserTo (DD i) (min (t + 1) (DD i).un) x ↔ UserTo (DD i) (min t (DD i).un) x := fun x => by
                      by_cases h1 : t < (DD i).un
                      · have hm : min (t + 1) (DD i).un = t + 1 ∧ min t (DD i).un = t := by omega
                        have hnm : nm = ⟨#[]⟩ := by
                          by_cases h2 : nm = ⟨#[]⟩
                          · exact h2
                          · exact absurd ⟨h1, h2⟩ hu3
                        have hus : (DD i).user t = ⟨#[]⟩ := by
                          rcases Hkind.out with h | h
                          · rw [← h.2.2.1]; exact hnm
                          · omega
                        rw [hm.1, hm.2, UserTo.succ, hus]
                        simp
                      · rw [show min (t + 1) (DD i).un = min t (DD i).un by omega]
                    have Hun := hid hun
                    clear hu3 hun
                    have hkd' : (kd = 3 → nm = ⟨#[]⟩) := fun h => hkd.resolve_left (fun h' => h' h)
                    by_cases hk3 : kd = 3
                    · have hnm := hkd' hk3
                      subst hk3 hnm
                      clear hkd hkd'
                      go_wp2
                      go_roundw
                      case rel => exact ⟨t + 1, Dv, nv, by omega, by go_num, HrU.out, HBU.out, HOU.out, by omega, fun x => by rw [Hsv.out x, Hun.out x]⟩
                      case measure => simp [intOf] <;> omega
                    · have hk3b : (kd == 3) = false := by simpa using hk3
                      clear hkd hkd'
                      go_wp2
                      go_roundw
                      case rel => exact ⟨t + 1, Dv, nv, by omega, by go_num, HrU.out, HBU.out, HOU.out, by omega, fun x => by rw [Hsv.out x, Hun.out x]⟩
                      case measure => simp [intOf] <;> omega
                · have hti : ¬ (t : Int) < (ne : Int) := by omega
                  obtain rfl : t = ne := by omega
                  go_wp2
                  go_roundw
                  case rel =>
                    have hune : (DD i).un ≤ nEnts (DD i) := by unfold nEnts; omega
                    refine ⟨_, cnt1, nv, Dv, Hrv.out, HBv.out, HOv.out, by omega, fun x hx => ?_, fun x hx => (Hsv.out x).2 (.inl (Hs2.out x hx)), fun h x hx => (Hsv.out x).2 ?_⟩
                    · rcases (Hsv.out x).1 hx with h | ⟨j', h1, h2⟩
                      · exact Hs1.out x h
                      · exact .inr (.inr ⟨j', by omega, h2⟩)
                    · rcases Bool.and_eq_false_iff.1 h with h | h
                      · exact .inl (Hs3.out h x hx)
                      · have hk : kS = kl := WideAt.sameKey_eq (by simpa using h)
                        have := HneS.out hk.symm
                        right
                        rw [show min t (DD i).un = (DD i).un by omega]
                        exact hx
                  case measure => rw [Hrv.out.left_eq, Hrg.out.left_eq]; exact hlt
    · have hii : ¬ (i : Int) < 2 := by omega
      obtain rfl : i = 2 := by omega
      have hsz := HO.out.size_le
      have Hk := hid (keys30 (some w.heap.size) wq)
      have hcb : (wq.alloc (.cells #[.map (some w.heap.size)] 137)).heap[wq.heap.size]? = some (.cells #[.map (some w.heap.size)] 137 (0, 0)) := heap_alloc_new _ _
      have Hs := hid (sorted29 wq.heap.size w.heap.size n Ds Rh (wq.alloc (.cells #[.map (some w.heap.size)] 137)) hcb (HO.out.alloc _) (by unfold maxLen; omega) (by omega))
      clear hcb
      go_wp2_with (first | (go_at_call 30; refine Hk.out.mono ?_; rintro e w' ⟨rfl, rfl⟩) | (go_at_call 29; refine Hs.out.mono ?_; rintro e w5 ⟨v, ss, rfl, hS, hrow, hnil, hb⟩; obtain ⟨sa, sc, rfl⟩ := own_slice' hrow; have HS5 := hid hS; have Hrow := hid hrow; have Hb5 := hid hb; clear hS hrow hnil hb))
      obtain ⟨zs, hzs⟩ : ∃ zs, ss.mergeSort leB = zs := ⟨_, rfl⟩
      have hzp : zs.Perm ss := by rw [← hzs]; exact List.mergeSort_perm ss leB
      have hzl : zs.length = ss.length := hzp.length_eq
      have hkeys := strKeys_set HO.out
      have hzmem : ∀ x, x ∈ zs ↔ SetTo DD 2 x := fun x => by rw [hzp.mem_iff, HS5.out.mem_iff, hkeys.2 x]; exact HSet.out x
      have hznd : zs.Nodup := hzp.symm.nodup_iff.1 (HS5.out.symm.nodup_iff.1 hkeys.1)
      have hzso : zs.Pairwise (fun a b => leB a b = true) := by rw [← hzs]; exact sorted_le ss
      have hzlen : ∀ x ∈ zs, x.length ≤ 140737488351232 := fun x hx => by
        obtain ⟨i', hi', h | h⟩ := (hzmem x).1 hx
        · obtain ⟨j', h1, rfl⟩ := h
          have := (HN.out i' hi').named j' h1
          rw [Array.length_toList]; exact this
        · obtain ⟨j', h1, _, rfl⟩ := h
          have := (HN.out i' hi').user j' h1
          rw [Array.length_toList]; exact this
      have hrow := Hrow.out
      rw [show (fun x y : List UInt8 => decide (x ≤ y)) = leB from rfl, hzs, ← hzl] at hrow
      rw [← hzl]
      have hrow2 : w5.ownsRow w.heap.size 9 1 (.slice sa zs.length sc) zs.length (zs.map encStr) := own_base hrow (by simp; omega)
      have hB5 : Below w.heap.size w w5 := HB.out.trans ⟨Hb5.out.os, Hb5.out.tape, Hb5.out.output, by have := Hb5.out.size; simp at this; omega, fun b hb => (Hb5.out.block b (by simp; omega)).trans (Below.heap_alloc _ _ _ (by omega))⟩
      have hM : zs.length ≤ 600000 := by
        have h1 := HS5.out.length_eq
        have h2 : (strKeys Ds).length = Maps.size Ds := by
          obtain ⟨es, rfl, _⟩ := HO.out.keysOf
          simp [strKeys, Maps.size]
        omega
      obtain ⟨M, hMe⟩ : ∃ M, zs.length = M := ⟨_, rfl⟩
      have HM := hid hMe; have Hrow2 := hid hrow2; have HB5 := hid hB5; have Hzmem := hid hzmem; have Hznd := hid hznd; have Hzso := hid hzso; have Hzlen := hid hzlen
      rw [hMe] at hM ⊢
      clear hzs hzp hzl hkeys hzmem hznd hzso hzlen hrow hrow2 hB5 hMe Hrow
      go_loopw [13, 73] (fun vl vk wr => ∃ (k lg : Nat), k ≤ M ∧ vl = .int .i64 lg ∧ vk = .int .i64 k ∧ wr = w5 ∧ (∀ x ∈ zs.take k, x.length ≤ lg) ∧ (lg = 0 ∨ ∃ x ∈ zs.take k, x.length = lg) ∧ lg ≤ 140737488351232) (fun _ vk _ => M - (intOf vk).toNat)
      case atStart => exact ⟨0, 0, by omega, rfl, rfl, rfl, fun x hx => by simp at hx, .inl rfl, by omega⟩
      case round =>
        obtain ⟨k, lg, hk, rfl, rfl, rfl, hl1, hl2, hl3⟩ := hrel
        have Hl1 := hid hl1; have Hl2 := hid hl2
        clear hl1 hl2
        by_cases hkM : k < M
        · have hki : (k : Int) < (M : Int) := by omega
          obtain ⟨x, hx⟩ : ∃ x, zs[k]? = some x := ⟨_, List.getElem?_eq_getElem (by rw [HM.out]; exact hkM)⟩
          have hxm := List.mem_of_getElem? hx
          have hxl := Hzlen.out x hxm
          obtain ⟨gg, hga, hgc⟩ : ∃ gg, sa = some ⟨gg, 0, none⟩ ∧ wr.cell? ⟨gg, k, none⟩ = some (encStr x) := by
            rcases Hrow2.out.2 with ⟨e, h0⟩ | ⟨gg, cap, cur, e, _⟩
            · rw [HM.out] at h0; omega
            · injection e with e1 _ _
              have := Hrow2.out.cells (g := gg) (by rw [e1]; rfl) k (encStr x) (by simp [hx])
              rw [Go.WideShapes.add_plain, Nat.zero_add] at this
              exact ⟨gg, e1, this⟩
          subst hga
          obtain ⟨u, hu⟩ : ∃ u : ByteArray, (⟨x.toArray⟩ : ByteArray) = u := ⟨_, rfl⟩
          have hgc' : wr.cell? ⟨gg, k, none⟩ = some (.string u) := by rw [← hu]; exact hgc
          obtain ⟨L, hL⟩ : ∃ L, u.size = L := ⟨_, rfl⟩
          have hLx : x.length = L := by rw [← hL, ← hu]; simp [ByteArray.size]
          have HLx := hid hLx; have Hx := hid hx
          have htk : zs.take (k + 1) = zs.take k ++ [x] := by rw [List.take_add_one, hx]; rfl
          have Htk := hid htk
          clear hgc hu hxm hx hLx htk
          go_wp2
          go_roundw
          case rel =>
            have hmx : ((max lg L : Nat) : Int) = max (lg : Int) (L : Int) := by omega
            have hLL := HLx.out
            refine ⟨k + 1, max lg L, by omega, by rw [hmx], by go_num, by first | rfl | trivial, fun y hy => ?_, ?_, by omega⟩
            · rw [Htk.out] at hy
              rcases List.mem_append.1 hy with h | h
              · have := Hl1.out y h; omega
              · simp only [List.mem_singleton] at h; subst h; omega
            · by_cases hc : lg ≤ L
              · exact .inr ⟨x, by rw [Htk.out]; simp, by omega⟩
              · rcases Hl2.out with h | ⟨y, h1, h2⟩
                · omega
                · exact .inr ⟨y, by rw [Htk.out]; exact List.mem_append_left _ h1, by omega⟩
          case measure => simp [intOf] <;> omega
        · have hki : ¬ (k : Int) < (M : Int) := by omega
          obtain rfl : k = M := by omega
          have Hrep := hid (Ybaz.strings_Repeat ⟨#[63]⟩ (lg + 1) wr (by omega) (by show 1 * (lg + 1) ≤ _; omega))
          go_wp2_with (go_at_call 17; refine Hrep.out.mono ?_; rintro e w6 ⟨rfl, hb6⟩; have Hb6 := hid hb6; clear hb6)
          go_ret2
          have htk : zs.take k = zs := List.take_of_length_le (by rw [HM.out]; exact Nat.le_refl _)
          have h1 := Hl1.out; have h2 := Hl2.out
          rw [htk] at h1 h2
          refine ⟨_, zs, lg, rfl, ?_, Hzso.out, Hznd.out, Hzmem.out, h1, h2, hl3, by rw [HM.out]; omega, HB5.out.trans ⟨Hb6.out.os, Hb6.out.tape, Hb6.out.output, Hb6.out.size, fun b hb => Hb6.out.block b (by have := HB5.out.size; omega)⟩⟩
          have := own_move Hrow2.out (fun g' _ hl => Hb6.out.block g' hl)
          rw [HM.out] at this ⊢
          exact this
end Go.Proofs.YbulkchuuGreatDoor
