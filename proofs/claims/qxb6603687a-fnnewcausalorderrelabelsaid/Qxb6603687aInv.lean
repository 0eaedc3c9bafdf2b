/-
  A region that draws its order, by an invariant: a rule over 'wpAny' (Derived.Orders), and the frames that such a region fills slot by slot.
-/
import Derived.Test.Qxb6603687aBlk
import Derived.Orders
namespace Go.Proofs.Qxb6603687a
open Go.RowKit
set_option linter.unusedVariables false

section
variable {P : Program} {ops : Array Oper} {Q : Exit → Act → World → Prop} {md : Region.Mode}

theorem ready_mem {listed : Array Bool} {i : Nat} : i ∈ Region.ready md ops listed ↔ i < ops.size ∧ listed.getD i true = false ∧ ∃ o, ops[i]? = some o ∧ ∀ e ∈ o.after, Region.binds md e = true → listed.getD e.on false = true := by
  unfold Region.ready
  rw [List.mem_filter, List.mem_range, Bool.and_eq_true]
  constructor
  · rintro ⟨h1, h2, h3⟩
    refine ⟨h1, by simpa using h2, ops[i], by simp [h1], fun e he hb => ?_⟩
    rw [Array.getElem?_eq_getElem h1] at h3
    simp only [Option.map_some, Option.getD_some, Array.all_eq_true_iff_forall_mem] at h3
    have := h3 e he
    simpa [hb] using this
  · rintro ⟨h1, h2, o, ho, h3⟩
    refine ⟨h1, by simpa using h2, ?_⟩
    rw [ho]
    simp only [Option.map_some, Option.getD_some, Array.all_eq_true_iff_forall_mem]
    intro e he
    by_cases hb : Region.binds md e = true
    · simp [hb, h3 e he hb]
    · simp [hb]

theorem count_set (listed : Array Bool) (i : Nat) (h : listed.getD i true = false) : (listed.setIfInBounds i true).toList.count false + 1 = listed.toList.count false := by
  have hi : i < listed.size := by
    apply Classical.byContradiction
    intro hge
    simp [Array.getD, hge] at h
  have hv : listed[i] = false := by simpa [Array.getD, hi] using h
  rw [Array.toList_setIfInBounds, List.count_set (by simpa using hi)]
  have hl : listed.toList[i]'(by simpa using hi) = false := by simpa using hv
  have hp : 0 < listed.toList.count false := List.count_pos_iff.2 (hl ▸ List.getElem_mem _)
  rw [hl, if_pos (by decide), if_neg (by decide)]
  omega

theorem wpAny_inv (topo : ∀ (i : Nat) (o : Oper), ops[i]? = some o → ∀ e ∈ o.after, e.on < i) (Inv : Array Bool → Act → World → Prop)
    (hsz : ∀ listed a w, Inv listed a w → listed.size = ops.size)
    (step : ∀ (listed : Array Bool) (a : Act) (w : World) (i : Nat) (o : Oper), Inv listed a w → i < ops.size → ops[i]? = some o → listed.getD i true = false → (∀ e ∈ o.after, Region.binds md e = true → listed.getD e.on false = true) → wpOp P ops Q i (Inv (listed.setIfInBounds i true)) a w)
    (done : ∀ listed a w, Inv listed a w → (∀ i, i < ops.size → listed.getD i true = true) → Q .normal a w) :
    ∀ (fuel : Nat) (listed : Array Bool) (a : Act) (w : World), Inv listed a w → listed.toList.count false ≤ fuel → wpAny P md ops Q fuel listed a w := by
  have fin : ∀ listed a w, Inv listed a w → Region.ready md ops listed = [] → Q .normal a w := by
    intro listed a w hI hr
    refine done listed a w hI fun i => ?_
    induction i using Nat.strongRecOn with
    | ind i ih =>
      intro hi
      apply Classical.byContradiction
      intro hn
      have hm : i ∈ Region.ready md ops listed := ready_mem.2 ⟨hi, by simpa using hn, ops[i], by simp [hi], fun e he hb => by
        have hlt := topo i ops[i] (by simp [hi]) e he
        have := ih e.on hlt (by omega)
        have hs := hsz listed a w hI
        have hl : e.on < listed.size := by omega
        simpa [Array.getD, hl] using this⟩
      rw [hr] at hm
      cases hm
  intro fuel
  induction fuel with
  | zero =>
    intro listed a w hI hc
    have hr : Region.ready md ops listed = [] := by
      apply List.eq_nil_iff_forall_not_mem.2
      intro i hi
      have := count_set listed i (ready_mem.1 hi).2.1
      omega
    exact ⟨hr, fin listed a w hI hr⟩
  | succ fuel ih =>
    intro listed a w hI hc
    refine ⟨fun hr => fin listed a w hI hr, fun i hi => ?_⟩
    obtain ⟨h1, h2, o, ho, h3⟩ := ready_mem.1 hi
    refine wpOp_mono (fun a' w' hI' => ih _ _ _ hI' ?_) (step listed a w i o hI h1 ho h2 h3)
    have := count_set listed i h2
    omega

theorem wp_region_inv {id : Nat} {a : Act} {w : World} (hm : P.follows .mixedOrders = true) (topo : ∀ (i : Nat) (o : Oper), ops[i]? = some o → ∀ e ∈ o.after, e.on < i) (Inv : Array Bool → Act → World → Prop)
    (hsz : ∀ listed a w, Inv listed a w → listed.size = ops.size)
    (step : ∀ (listed : Array Bool) (a : Act) (w : World) (i : Nat) (o : Oper), Inv listed a w → i < ops.size → ops[i]? = some o → listed.getD i true = false → (∀ e ∈ o.after, Region.binds .any e = true → listed.getD e.on false = true) → wpOp P ops Q i (Inv (listed.setIfInBounds i true)) a w)
    (done : ∀ listed a w, Inv listed a w → (∀ i, i < ops.size → listed.getD i true = true) → Q .normal a w)
    (start : Inv (Array.replicate ops.size false) a w.drew) : (Code.region id ops true).wp P Q a w :=
  wp_region_any hm (wpAny_inv topo Inv hsz step done ops.size _ a _ start (by simp))

theorem topo_of {ops : Array Oper} (h : (List.range ops.size).all (fun i => (ops[i]?).elim true (fun o => o.after.all (fun e => decide (e.on < i)))) = true) : ∀ (i : Nat) (o : Oper), ops[i]? = some o → ∀ e ∈ o.after, e.on < i := by
  intro i o ho e he
  have hi : i < ops.size := (Array.getElem?_eq_some_iff.1 ho).1
  have := (List.all_eq_true.1 h) i (List.mem_range.2 hi)
  rw [ho] at this
  simp only [Option.elim_some, Array.all_eq_true_iff_forall_mem] at this
  exact of_decide_eq_true (this e he)

/-- An operation without a guard whose run yields a value. -/
theorem wpOp_value {i : Nat} {o : Oper} {K : Act → World → Prop} {a : Act} {w w' : World} {v : Value} (ho : ops[i]? = some o) (hg : o.guard = none) (hrun : (execOp a.eval o).run P w = .ok (.value v) w') (hK : K (a.put o.dst v) w') : wpOp P ops Q i K a w := by
  unfold wpOp
  rw [ho]
  simp only [Region.wanted, hg, if_true]
  left
  unfold Oper.wp
  rw [hrun]
  exact hK
end

/-! ### A frame that is filled slot by slot: 'sk': (slot, operation) pairs; 'f': which operations are done; 'val': what each yields -/
def fill (t : Array Value) (sk : List (Nat × Nat)) (f : Nat → Bool) (val : Nat → Value) : Array Value := sk.foldl (fun t e => if f e.2 then t.setIfInBounds e.1 (val e.2) else t) t

theorem fill_congr (sk : List (Nat × Nat)) {f g : Nat → Bool} {val val' : Nat → Value} : ∀ (t : Array Value), (∀ e ∈ sk, f e.2 = g e.2) → (∀ e ∈ sk, f e.2 = true → val e.2 = val' e.2) → fill t sk f val = fill t sk g val' := by
  induction sk with
  | nil => intro t _ _; rfl
  | cons e r ih =>
    intro t h h'
    show fill (if f e.2 then t.setIfInBounds e.1 (val e.2) else t) r f val = fill (if g e.2 then t.setIfInBounds e.1 (val' e.2) else t) r g val'
    rw [← h e (by simp)]
    by_cases hf : f e.2 = true
    · rw [if_pos hf, if_pos hf, h' e (by simp) hf]
      exact ih _ (fun x hx => h x (by simp [hx])) (fun x hx => h' x (by simp [hx]))
    · rw [if_neg hf, if_neg hf]
      exact ih _ (fun x hx => h x (by simp [hx])) (fun x hx => h' x (by simp [hx]))

theorem fill_set (sk : List (Nat × Nat)) (f : Nat → Bool) (val : Nat → Value) (s : Nat) (v : Value) : ∀ (t : Array Value), (∀ e ∈ sk, e.1 ≠ s) → fill (t.setIfInBounds s v) sk f val = (fill t sk f val).setIfInBounds s v := by
  induction sk with
  | nil => intro t _; rfl
  | cons e r ih =>
    intro t h
    show fill (if f e.2 then (t.setIfInBounds s v).setIfInBounds e.1 (val e.2) else t.setIfInBounds s v) r f val = (fill (if f e.2 then t.setIfInBounds e.1 (val e.2) else t) r f val).setIfInBounds s v
    have hne : e.1 ≠ s := h e (by simp)
    by_cases hf : f e.2 = true
    · rw [if_pos hf, if_pos hf, Array.setIfInBounds_comm _ _ (fun x => hne x.symm)]
      exact ih _ (fun x hx => h x (by simp [hx]))
    · rw [if_neg hf, if_neg hf]
      exact ih _ (fun x hx => h x (by simp [hx]))

theorem fill_step (sk : List (Nat × Nat)) {f g : Nat → Bool} {val : Nat → Value} {s i : Nat} : ∀ (t : Array Value), (s, i) ∈ sk → sk.Pairwise (fun a b => a.1 ≠ b.1 ∧ a.2 ≠ b.2) → f i = false → g i = true → (∀ j, j ≠ i → g j = f j) → fill t sk g val = (fill t sk f val).setIfInBounds s (val i) := by
  induction sk with
  | nil => intro t h; cases h
  | cons e r ih =>
    intro t h hp h0 h1 h2
    rw [List.pairwise_cons] at hp
    show fill (if g e.2 then t.setIfInBounds e.1 (val e.2) else t) r g val = (fill (if f e.2 then t.setIfInBounds e.1 (val e.2) else t) r f val).setIfInBounds s (val i)
    rcases List.mem_cons.1 h with he | he
    · subst he
      rw [if_pos h1, if_neg (by simp [h0])]
      rw [fill_set r g val s (val i) t (fun x hx => fun e => (hp.1 x hx).1 e.symm)]
      congr 1
      exact fill_congr r t (fun x hx => h2 _ (fun e => (hp.1 x hx).2 e.symm)) (fun _ _ _ => rfl)
    · rw [h2 e.2 (fun x => (hp.1 (s, i) he).2 x)]
      exact ih _ he hp.2 h0 h1 h2

theorem fill_size (sk : List (Nat × Nat)) (f : Nat → Bool) (val : Nat → Value) : ∀ (t : Array Value), (fill t sk f val).size = t.size := by
  induction sk with
  | nil => intro t; rfl
  | cons e r ih =>
    intro t
    show (fill (if f e.2 then t.setIfInBounds e.1 (val e.2) else t) r f val).size = t.size
    rw [ih]
    split <;> simp

theorem fill_other (sk : List (Nat × Nat)) (f : Nat → Bool) (val : Nat → Value) (s : Nat) : ∀ (t : Array Value), (∀ e ∈ sk, e.1 ≠ s) → (fill t sk f val)[s]? = t[s]? := by
  induction sk with
  | nil => intro t _; rfl
  | cons e r ih =>
    intro t h
    show (fill (if f e.2 then t.setIfInBounds e.1 (val e.2) else t) r f val)[s]? = t[s]?
    rw [ih _ (fun x hx => h x (by simp [hx]))]
    split
    · rw [Array.getElem?_setIfInBounds_ne (h e (by simp))]
    · rfl

theorem fill_at (sk : List (Nat × Nat)) {f : Nat → Bool} {val : Nat → Value} {s i : Nat} : ∀ (t : Array Value), (s, i) ∈ sk → sk.Pairwise (fun a b => a.1 ≠ b.1 ∧ a.2 ≠ b.2) → f i = true → s < t.size → (fill t sk f val)[s]? = some (val i) := by
  induction sk with
  | nil => intro t h; cases h
  | cons e r ih =>
    intro t h hp h0 hs
    rw [List.pairwise_cons] at hp
    show (fill (if f e.2 then t.setIfInBounds e.1 (val e.2) else t) r f val)[s]? = some (val i)
    rcases List.mem_cons.1 h with he | he
    · subst he
      rw [if_pos h0, fill_other r f val s _ (fun x hx => fun e => (hp.1 x hx).1 e.symm), Array.getElem?_setIfInBounds_self_of_lt hs]
    · exact ih _ he hp.2 h0 (by split <;> simpa using hs)
end Go.Proofs.Qxb6603687a
