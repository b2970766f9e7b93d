import Derived.WalkKit
namespace Go.Proofs.Ybulkauni.lawS2296ATells
section
variable {P : Program} {ops : Array Oper} {Q : Exit → Act → World → Prop} {md : Region.Mode}
theorem count_pos_of_unlisted {listed : Array Bool} {i : Nat} (h : listed.getD i true = false) : ∃ hi : i < listed.toList.length, listed.toList[i] = false := by
  rcases Nat.lt_or_ge i listed.size with h' | h'
  · refine ⟨by simpa using h', ?_⟩
    simpa [h'] using h
  · simp [h'] at h
theorem count_set_unlisted {listed : Array Bool} {i : Nat} (h : listed.getD i true = false) : (listed.setIfInBounds i true).toList.count false + 1 = listed.toList.count false := by
  obtain ⟨hi, hv⟩ := count_pos_of_unlisted h
  rw [Array.toList_setIfInBounds, List.count_set hi, hv]
  have : 0 < listed.toList.count false := List.count_pos_iff.2 (by rw [← hv]; exact List.getElem_mem hi)
  have e1 : (if (false == false) = true then 1 else 0) = 1 := rfl
  have e2 : (if (true == false) = true then 1 else 0) = 0 := rfl
  rw [e1, e2]
  omega
/-- WHATEVER ORDER: what every operation that is ready keeps holds at the end. -/
theorem wpAny_inv (Inv : Array Bool → Act → World → Prop)
    (hstep : ∀ listed a w i, Inv listed a w → i ∈ Region.ready md ops listed → wpOp P ops Q i (fun a' w' => Inv (listed.setIfInBounds i true) a' w') a w)
    (hend : ∀ listed a w, Inv listed a w → Region.ready md ops listed = [] → Q .normal a w) :
    ∀ (fuel : Nat) (listed : Array Bool) (a : Act) (w : World), listed.toList.count false ≤ fuel → Inv listed a w → wpAny P md ops Q fuel listed a w := by
  intro fuel
  induction fuel with
  | zero =>
    intro listed a w hc hI
    have hr : Region.ready md ops listed = [] := by
      cases hr : Region.ready md ops listed with
      | nil => rfl
      | cons i t =>
        have hi : i ∈ Region.ready md ops listed := by rw [hr]; exact List.mem_cons_self
        have := count_set_unlisted (mem_ready.1 hi).1
        omega
    exact ⟨hr, hend _ _ _ hI hr⟩
  | succ fuel ih =>
    intro listed a w hc hI
    refine ⟨fun hr => hend _ _ _ hI hr, fun i hi => ?_⟩
    refine wpOp_mono (fun a' w' h' => ih _ a' w' ?_ h') (hstep listed a w i hI hi)
    have := count_set_unlisted (mem_ready.1 hi).1
    omega
/-- Each operation waits for earlier ones alone. -/
def backB (ops : Array Oper) : Bool := (List.range ops.size).all fun j => ((ops[j]?).map (fun o : Oper => o.after.all fun e => decide (e.on < j))).getD true
theorem backB_spec (h : backB ops = true) : ∀ (j : Nat) (o : Oper), ops[j]? = some o → ∀ e ∈ o.after, e.on < j := by
  intro j o ho e he
  have hj : j < ops.size := (Array.getElem?_eq_some_iff.1 ho).1
  have := List.all_eq_true.1 h j (List.mem_range.2 hj)
  rw [ho] at this
  simp only [Option.map_some, Option.getD_some] at this
  have := Array.all_eq_true'.1 this e he
  exact of_decide_eq_true this
/-- All have come up where none is ready: an operation waits for earlier ones alone. -/
theorem all_listed {listed : Array Bool} (hsz : listed.size = ops.size) (hback : ∀ (j : Nat) (o : Oper), ops[j]? = some o → ∀ e ∈ o.after, e.on < j) (hr : Region.ready md ops listed = []) : ∀ j, j < ops.size → listed.getD j false = true := by
  intro j
  induction j using Nat.strongRecOn with
  | _ j ih =>
    intro hj
    cases hl : listed.getD j false with
    | true => rfl
    | false =>
      have hu : listed.getD j true = false := by
        have hj' : j < listed.size := by omega
        simpa [hj'] using hl
      have : j ∈ Region.ready md ops listed := mem_ready.2 ⟨hu, ops[j], by simp [hj], fun e he _ => ih e.on (hback j _ (by simp [hj]) e he) (Nat.lt_trans (hback j _ (by simp [hj]) e he) hj)⟩
      rw [hr] at this
      cases this
theorem wp_region_inv {id : Nat} {a : Act} {w : World} (Inv : Array Bool → Act → World → Prop) (hm : P.follows .mixedOrders = true)
    (hback : backB ops = true)
    (h0 : Inv (Array.replicate ops.size false) a w.drew)
    (hstep : ∀ listed a w i, Inv listed a w → i ∈ Region.ready .any ops listed → wpOp P ops Q i (fun a' w' => Inv (listed.setIfInBounds i true) a' w') a w)
    (hend : ∀ listed a w, Inv listed a w → (∀ j, j < ops.size → listed.getD j false = true) → Q .normal a w) : (Code.region id ops true).wp P Q a w := by
  refine wp_region_any hm (wpAny_inv (md := .any) (fun listed a w => listed.size = ops.size ∧ Inv listed a w) (fun listed a w i h hi => ?_) (fun listed a w h hr => hend listed a w h.2 (all_listed h.1 (backB_spec hback) hr)) _ _ _ _ ?_ ⟨by simp, h0⟩)
  · exact wpOp_mono (fun a' w' h' => ⟨by simpa using h.1, h'⟩) (hstep listed a w i h.2 hi)
  · simp
end
end Go.Proofs.Ybulkauni.lawS2296ATells
