import Derived.Test.YbulkchuuGreatDoorA
import Derived.Orders
namespace Go.Proofs.YbulkchuuGreatDoor
open Go.RowKit
set_option linter.unusedVariables false
set_option linter.unusedSimpArgs false
set_option maxRecDepth 100000

/-! ### a region in whatever order, by an invariant over the operations done -/
def depsB (ops : Array Oper) (L : Nat → Bool) (i : Nat) : Bool := match ops[i]? with
  | some o => o.after.all fun e => !Region.binds .any e || L e.on
  | none => true
def lexOk (ops : Array Oper) : Bool := (List.range ops.size).all fun i => depsB ops (fun j => decide (j < i)) i
theorem ready_iff {ops : Array Oper} {listed : Array Bool} (hs : listed.size = ops.size) (i : Nat) : i ∈ Region.ready .any ops listed ↔ i < ops.size ∧ listed.getD i false = false ∧ depsB ops (fun j => listed.getD j false) i = true := by
  unfold Region.ready depsB
  rw [List.mem_filter, List.mem_range]
  constructor
  · rintro ⟨h1, h2⟩
    simp only [Bool.and_eq_true, Bool.not_eq_true'] at h2
    obtain ⟨h2, h3⟩ := h2
    have hi : i < listed.size := by omega
    refine ⟨h1, by simpa [Array.getD, hi] using h2, ?_⟩
    rw [Array.getElem?_eq_getElem h1] at h3 ⊢
    simpa using h3
  · rintro ⟨h1, h2, h3⟩
    have hi : i < listed.size := by omega
    refine ⟨h1, ?_⟩
    rw [Array.getElem?_eq_getElem h1] at h3 ⊢
    simp only [Bool.and_eq_true, Bool.not_eq_true']
    exact ⟨by simpa [Array.getD, hi] using h2, by simpa using h3⟩
theorem depsB_mono {ops : Array Oper} {L L' : Nat → Bool} {i : Nat} (h : ∀ j, L j = true → L' j = true) (hd : depsB ops L i = true) : depsB ops L' i = true := by
  unfold depsB at *
  split
  · rename_i o ho
    simp only [ho] at hd
    rw [Array.all_eq_true_iff_forall_mem] at hd ⊢
    intro e he
    have := hd e he
    simp only [Bool.or_eq_true] at this ⊢
    exact this.elim .inl (fun k => .inr (h _ k))
  · rfl
theorem ready_nil {ops : Array Oper} {listed : Array Bool} (hs : listed.size = ops.size) (hl : lexOk ops = true) (h : Region.ready .any ops listed = []) : ∀ i, i < ops.size → listed.getD i false = true := by
  intro i
  induction i using Nat.strongRecOn with
  | ind i ih =>
    intro hi
    cases hc : listed.getD i false with
    | true => rfl
    | false =>
      exfalso
      have hd : depsB ops (fun j => decide (j < i)) i = true := by
        unfold lexOk at hl
        exact List.all_eq_true.1 hl i (by simpa using hi)
      have hm : i ∈ Region.ready .any ops listed := (ready_iff hs i).2 ⟨hi, hc, depsB_mono (fun j hj => ih j (by simpa using hj) (by have := of_decide_eq_true hj; omega)) hd⟩
      rw [h] at hm
      simp at hm
theorem wpAny_inv {P : Program} {ops : Array Oper} {Q : Exit → Act → World → Prop} (I : (Nat → Bool) → Act → World → Prop) (hl : lexOk ops = true)
    (hstep : ∀ L a w i, I L a w → i < ops.size → L i = false → depsB ops L i = true → wpOp P ops Q i (I (fun j => j == i || L j)) a w)
    (hend : ∀ L a w, I L a w → (∀ i, i < ops.size → L i = true) → Q .normal a w) :
    ∀ (fuel : Nat) (listed : Array Bool) (a : Act) (w : World), listed.size = ops.size → listed.toList.count false ≤ fuel → I (fun j => listed.getD j false) a w → wpAny P .any ops Q fuel listed a w
  | 0, listed, a, w, hs, hf, hI => by
    have hall : ∀ i, i < ops.size → listed.getD i false = true := fun i hi => by
      have h0 : listed.toList.count false = 0 := by omega
      rw [List.count_eq_zero] at h0
      have hi' : i < listed.size := by omega
      cases hc : listed.getD i false with
      | true => rfl
      | false =>
        exfalso
        apply h0
        rw [Array.mem_toList_iff]
        have : listed[i] = false := by simpa [Array.getD, hi'] using hc
        rw [← this]
        exact Array.getElem_mem hi'
    refine ⟨?_, hend _ a w hI hall⟩
    rw [List.eq_nil_iff_forall_not_mem]
    intro i hi
    obtain ⟨h1, h2, _⟩ := (ready_iff hs i).1 hi
    rw [hall i h1] at h2
    cases h2
  | fuel + 1, listed, a, w, hs, hf, hI => by
    refine ⟨fun hr => hend _ a w hI (ready_nil hs hl hr), fun i hi => ?_⟩
    obtain ⟨h1, h2, h3⟩ := (ready_iff hs i).1 hi
    refine wpOp_mono (fun a' w' h' => ?_) (hstep _ a w i hI h1 h2 h3)
    refine wpAny_inv I hl hstep hend fuel _ a' w' (by simpa using hs) ?_ ?_
    · have hi' : i < listed.size := by omega
      have : listed[i] = false := by simpa [Array.getD, hi'] using h2
      rw [Array.toList_setIfInBounds, List.count_set (by simpa using hi')]
      simp [this]
      simp at hf
      omega
    · have e : (fun j => (listed.setIfInBounds i true).getD j false) = fun j => j == i || listed.getD j false := by
        funext j
        have hi' : i < listed.size := by omega
        by_cases e : j = i
        · subst e; simp [Array.getD, hi']
        · by_cases hj : j < listed.size
          · have : ¬ i = j := fun h => e h.symm
            simp [Array.getD, hj, e, this, Array.getElem_setIfInBounds]
          · simp [Array.getD, hj, e]
      rw [e]
      exact h'
theorem wp_region_inv {P : Program} {id : Nat} {ops : Array Oper} {Q : Exit → Act → World → Prop} {a : Act} {w : World} (hm : P.follows .mixedOrders = true) (I : (Nat → Bool) → Act → World → Prop) (hl : lexOk ops = true) (h0 : I (fun _ => false) a w.drew)
    (hstep : ∀ L a w i, I L a w → i < ops.size → L i = false → depsB ops L i = true → wpOp P ops Q i (I (fun j => j == i || L j)) a w)
    (hend : ∀ L a w, I L a w → (∀ i, i < ops.size → L i = true) → Q .normal a w) : (Code.region id ops true).wp P Q a w := by
  refine wp_region_any hm (wpAny_inv I hl hstep hend _ _ _ _ (by simp) (by simp [List.count_replicate]) ?_)
  have e : (fun j => (Array.replicate ops.size false).getD j false) = fun _ => false := by
    funext j
    by_cases hj : j < ops.size <;> simp [Array.getD, hj]
  rw [e]
  exact h0
end Go.Proofs.YbulkchuuGreatDoor
