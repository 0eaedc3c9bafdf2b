/-
  newCausalOrder's first statement: six slices made in whatever order, a struct of them, a box: a region that draws its order.
-/
import Derived.Test.Qxb6603687aInv
namespace Go.Proofs.Qxb6603687a
open Go.RowKit
set_option linter.unusedVariables false

theorem info21 : (Try.prog.info? 21).map (fun i => (i.zero, i.size, i.bytes)) = some (some (.int .i32 0), 1, 4) := by kernel_rfl
theorem run_mk32 (n : Nat) (hn : n ≤ 4096) (w : World) : (Instr.makeSlice 23 (.int .i64 (n : Int)) (.int .i64 (n : Int))).run Try.prog w = .ok (.slice (some ⟨w.heap.size, 0, none⟩) n n) (w.alloc (.cells (zeros .i32 n) 21)) := by
  have := run_mk (P := Try.prog) 23 21 _ 1 4 Try.underlying23 info21 n (by omega) (by omega) w
  rw [Nat.mul_one] at this
  exact this

/-- A slice of n numbers at the head of block g. -/
def sl (n g : Nat) : Value := .slice (some ⟨g, 0, none⟩) n n
def orderCells (n : Nat) (γ : Nat → Nat) : Array Value := #[.int .i64 0, sl n (γ 0), sl n (γ 1), sl n (γ 2), sl n (γ 3), sl n (γ 4), sl n (γ 5)]
/-- What each of the fifteen operations yields. -/
def six (n : Nat) (γ : Nat → Nat) (gO i : Nat) : Value :=
  if i = 12 then .agg (orderCells n γ) else if i = 13 ∨ i = 14 then .pointer (some ⟨gO, 0, none⟩) else if i % 2 = 0 then .int .i64 (n : Int) else sl n (γ (i / 2))
def sk : List (Nat × Nat) := [(19, 0), (20, 1), (21, 2), (22, 3), (23, 4), (24, 5), (25, 6), (26, 7), (27, 8), (28, 9), (29, 10), (30, 11), (31, 12), (32, 13), (4, 14)]
theorem sk_pw : sk.Pairwise (fun a b => a.1 ≠ b.1 ∧ a.2 ≠ b.2) := by decide
theorem sk_mv : ∀ m, m < 6 → (19 + 2 * m, 2 * m) ∈ sk := by decide
theorem sk_mk : ∀ m, m < 6 → (20 + 2 * m, 2 * m + 1) ∈ sk := by decide
theorem sk_15 : ∀ e ∈ sk, e.2 < 15 := by decide
theorem sk_3 : ∀ e ∈ sk, e.1 ≠ 3 := by decide
theorem six_even (n : Nat) (γ : Nat → Nat) (gO m : Nat) (h : m < 6) : six n γ gO (2 * m) = .int .i64 (n : Int) := by
  unfold six
  rw [if_neg (by omega), if_neg (by omega), if_pos (by omega)]
theorem six_odd (n : Nat) (γ : Nat → Nat) (gO m : Nat) (h : m < 6) : six n γ gO (2 * m + 1) = sl n (γ m) := by
  unfold six
  rw [if_neg (by omega), if_neg (by omega), if_neg (by omega)]
  have : (2 * m + 1) / 2 = m := by omega
  rw [this]

/-- The shape of the region's fifteen operations. -/
structure Six (ops : Array Oper) : Prop where
  size : ops.size = 15
  topo : ∀ (i : Nat) (o : Oper), ops[i]? = some o → ∀ e ∈ o.after, e.on < i
  mv : ∀ m, m < 6 → ∃ o, ops[2 * m]? = some o ∧ o.dst = some (19 + 2 * m) ∧ o.op = .move (.tmp 3) ∧ o.guard = none
  made : ∀ m, m < 6 → ∃ o, ops[2 * m + 1]? = some o ∧ o.dst = some (20 + 2 * m) ∧ o.op = .makeSlice 23 (.tmp (19 + 2 * m)) (.tmp (19 + 2 * m)) ∧ o.guard = none ∧ ∃ e ∈ o.after, e.on = 2 * m ∧ Region.binds .any e = true
  bd : ∃ o, ops[12]? = some o ∧ o.dst = some 31 ∧ o.op = .build 66 #[(1, .tmp 20), (2, .tmp 22), (3, .tmp 24), (4, .tmp 26), (5, .tmp 28), (6, .tmp 30)] ∧ o.guard = none ∧ ∀ m, m < 6 → ∃ e ∈ o.after, e.on = 2 * m + 1 ∧ Region.binds .any e = true
  bx : ∃ o, ops[13]? = some o ∧ o.dst = some 32 ∧ o.op = .box 66 (.tmp 31) ∧ o.guard = none ∧ ∃ e ∈ o.after, e.on = 12 ∧ Region.binds .any e = true
  asg : ∃ o, ops[14]? = some o ∧ o.dst = some 4 ∧ o.op = .assign (.tmp 32) ∧ o.guard = none ∧ ∃ e ∈ o.after, e.on = 13 ∧ Region.binds .any e = true

structure SixInv (n : Nat) (w0 : World) (a0 : Act) (listed : Array Bool) (a : Act) (w : World) : Prop where
  lsz : listed.size = 15
  c12 : listed.getD 12 false = true → ∀ m, m < 6 → listed.getD (2 * m + 1) false = true
  c13 : listed.getD 13 false = true → listed.getD 12 false = true
  c14 : listed.getD 14 false = true → listed.getD 13 false = true
  below : Below w0.heap.size w0 w
  ex : ∃ (γ : Nat → Nat) (gO : Nat), a = ⟨fill a0.tmps sk (fun i => listed.getD i false) (six n γ gO), a0.defers⟩ ∧
    (∀ m, m < 6 → listed.getD (2 * m + 1) false = true → w0.heap.size ≤ γ m ∧ Blk w (γ m) 21 (zeros .i32 n)) ∧
    (∀ m m', m < 6 → m' < 6 → m ≠ m' → listed.getD (2 * m + 1) false = true → listed.getD (2 * m' + 1) false = true → γ m ≠ γ m') ∧
    (listed.getD 13 false = true → Blk w gO 66 (orderCells n γ) ∧ ∀ m, m < 6 → γ m < gO)

theorem getD_set_same {l : Array Bool} {i : Nat} (h : i < l.size) : (l.setIfInBounds i true).getD i false = true := by simp [Array.getD, h]
theorem getD_set_other {l : Array Bool} {i j : Nat} (h : j ≠ i) : (l.setIfInBounds i true).getD j false = l.getD j false := by
  have h' : i ≠ j := fun e => h e.symm
  simp [Array.getD_eq_getD_getElem?, h']
theorem getD_no {l : Array Bool} {i : Nat} (h : l.getD i true = false) : l.getD i false = false := by
  by_cases hi : i < l.size
  · simpa [Array.getD, hi] using h
  · simp [Array.getD, hi] at h

theorem built66 (n : Nat) (γ : Nat → Nat) (w : World) : (Instr.build 66 #[(1, sl n (γ 0)), (2, sl n (γ 1)), (3, sl n (γ 2)), (4, sl n (γ 3)), (5, sl n (γ 4)), (6, sl n (γ 5))]).run Try.prog w = .ok (.agg (orderCells n γ)) w := by kernel_rfl
theorem boxed66 (v0 v1 v2 v3 v4 v5 v6 : Value) (w : World) : (Instr.box 66 (.agg #[v0, v1, v2, v3, v4, v5, v6])).run Try.prog w = .ok (.pointer (some ⟨w.heap.size, 0, none⟩)) (w.alloc (.cells #[v0, v1, v2, v3, v4, v5, v6] 66)) := by kernel_rfl

section
variable {ops : Array Oper} {Q : Exit → Act → World → Prop} {n : Nat} {w0 : World} {a0 : Act}

/-- One more operation done: the frame behind it. -/
theorem SixInv.put {listed : Array Bool} {s i : Nat} {v : Nat → Value} (hm : (s, i) ∈ sk) (hi : i < listed.size) (hno : listed.getD i true = false) :
    (⟨fill a0.tmps sk (fun j => listed.getD j false) v, a0.defers⟩ : Act).put (some s) (v i) = ⟨fill a0.tmps sk (fun j => (listed.setIfInBounds i true).getD j false) v, a0.defers⟩ := by
  have := fill_step sk (f := fun j => listed.getD j false) (g := fun j => (listed.setIfInBounds i true).getD j false) (val := v) (s := s) (i := i) a0.tmps hm sk_pw (getD_no hno) (getD_set_same hi) (fun j hj => getD_set_other hj)
  rw [this]
  rfl

theorem SixInv.read {listed : Array Bool} {s i : Nat} {v : Nat → Value} (hm : (s, i) ∈ sk) (hs : s < a0.tmps.size) (hyes : listed.getD i false = true) :
    (⟨fill a0.tmps sk (fun j => listed.getD j false) v, a0.defers⟩ : Act).eval (.tmp s) = v i := by
  have := fill_at sk (f := fun j => listed.getD j false) (val := v) a0.tmps hm sk_pw hyes hs
  show (fill a0.tmps sk (fun j => listed.getD j false) v).getD s undef = _
  rw [Array.getD_eq_getD_getElem?, this]
  rfl
theorem SixInv.read3 {f : Nat → Bool} {v : Nat → Value} {x : Value} (h3 : a0.tmps[3]? = some x) : (⟨fill a0.tmps sk f v, a0.defers⟩ : Act).eval (.tmp 3) = x := by
  show (fill a0.tmps sk f v).getD 3 undef = _
  rw [Array.getD_eq_getD_getElem?, fill_other sk _ _ 3 a0.tmps sk_3, h3]
  rfl
theorem cases15 (i : Nat) (h : i < 15) : (∃ m, m < 6 ∧ i = 2 * m) ∨ (∃ m, m < 6 ∧ i = 2 * m + 1) ∨ i = 12 ∨ i = 13 ∨ i = 14 := by
  by_cases h12 : i < 12
  · by_cases h2 : i % 2 = 0
    · exact .inl ⟨i / 2, by omega, by omega⟩
    · exact .inr (.inl ⟨i / 2, by omega, by omega⟩)
  · omega

theorem six_step (h6 : Six ops) (hn : n ≤ 4096) (h3 : a0.tmps[3]? = some (.int .i64 (n : Int))) (hsz : 33 ≤ a0.tmps.size) (listed : Array Bool) (a : Act) (w : World) (i : Nat) (o : Oper) (hI : SixInv n w0 a0 listed a w)
    (hi : i < ops.size) (ho : ops[i]? = some o) (hno : listed.getD i true = false) (haf : ∀ e ∈ o.after, Region.binds .any e = true → listed.getD e.on false = true) : wpOp Try.prog ops Q i (SixInv n w0 a0 (listed.setIfInBounds i true)) a w := by
  have hl := hI.lsz
  have hi15 : i < 15 := by rw [← h6.size]; exact hi
  have hil : i < listed.size := by omega
  obtain ⟨γ, gO, rfl, hr, hd, hO⟩ := hI.ex
  have hlsz' : (listed.setIfInBounds i true).size = 15 := by simp [hl]
  rcases cases15 i hi15 with ⟨m, hm, rfl⟩ | ⟨m, hm, rfl⟩ | rfl | rfl | rfl
  · -- a number is copied
    obtain ⟨o', ho', hdst, hop, hg⟩ := h6.mv m hm
    obtain rfl : o = o' := by rw [ho] at ho'; exact Option.some.inj ho'
    have hv : (⟨fill a0.tmps sk (fun j => listed.getD j false) (six n γ gO), a0.defers⟩ : Act).eval (.tmp 3) = six n γ gO (2 * m) := by
      rw [six_even n γ gO m hm]
      exact SixInv.read3 h3
    refine wpOp_value (v := six n γ gO (2 * m)) (w' := w) ho hg (by simp only [execOp, hop, hv]; rfl) ?_
    rw [hdst, SixInv.put (sk_mv m hm) hil hno]
    refine ⟨hlsz', ?_, ?_, ?_, hI.below, γ, gO, rfl, ?_, ?_, ?_⟩
    · intro h k hk; rw [getD_set_other (by omega)] at h ⊢; exact hI.c12 h k hk
    · intro h; rw [getD_set_other (by omega)] at h ⊢; exact hI.c13 h
    · intro h; rw [getD_set_other (by omega)] at h ⊢; exact hI.c14 h
    · intro k hk h; rw [getD_set_other (by omega)] at h; exact hr k hk h
    · intro k k' hk hk' hne h h'; rw [getD_set_other (by omega)] at h h'; exact hd k k' hk hk' hne h h'
    · intro h; rw [getD_set_other (by omega)] at h; exact hO h
  · -- a slice is made
    obtain ⟨o', ho', hdst, hop, hg, e, he, hon, hb⟩ := h6.made m hm
    obtain rfl : o = o' := by rw [ho] at ho'; exact Option.some.inj ho'
    have hm0 : listed.getD (2 * m) false = true := by rw [← hon]; exact haf e he hb
    have hv : (⟨fill a0.tmps sk (fun j => listed.getD j false) (six n γ gO), a0.defers⟩ : Act).eval (.tmp (19 + 2 * m)) = .int .i64 (n : Int) := by
      rw [SixInv.read (sk_mv m hm) (by omega) hm0, six_even n γ gO m hm]
    have h12 : listed.getD 12 false ≠ true := fun h => by have := hI.c12 h m hm; rw [getD_no hno] at this; cases this
    have h13 : listed.getD 13 false ≠ true := fun h => h12 (hI.c13 h)
    let γ' : Nat → Nat := fun k => if k = m then w.heap.size else γ k
    have hγm : γ' m = w.heap.size := if_pos rfl
    have hγo : ∀ k, k ≠ m → γ' k = γ k := fun k hk => if_neg hk
    have hf : fill a0.tmps sk (fun j => listed.getD j false) (six n γ gO) = fill a0.tmps sk (fun j => listed.getD j false) (six n γ' gO) := by
      refine fill_congr sk a0.tmps (fun _ _ => rfl) (fun x hx hy => ?_)
      rcases cases15 x.2 (sk_15 x hx) with ⟨k, hk, e'⟩ | ⟨k, hk, e'⟩ | e' | e' | e' <;> rw [e'] at hy ⊢
      · rw [six_even _ _ _ _ hk, six_even _ _ _ _ hk]
      · rw [six_odd _ _ _ _ hk, six_odd _ _ _ _ hk, hγo k (fun h => by rw [h, getD_no hno] at hy; cases hy)]
      · exact absurd hy h12
      · rfl
      · rfl
    refine wpOp_value (v := six n γ' gO (2 * m + 1)) (w' := w.alloc (.cells (zeros .i32 n) 21)) ho hg ?_ ?_
    · rw [six_odd _ _ _ _ hm, hγm]
      simp only [execOp, hop, hv]
      simp only [Sem.run_bind, run_mk32 n hn w]
      rfl
    rw [hdst, hf, SixInv.put (sk_mk m hm) hil hno]
    refine ⟨hlsz', ?_, ?_, ?_, hI.below.alloc hI.below.size _, γ', gO, rfl, ?_, ?_, ?_⟩
    · intro h k hk; rw [getD_set_other (by omega)] at h; exact absurd h h12
    · intro h; rw [getD_set_other (by omega)] at h; exact absurd h h13
    · intro h; rw [getD_set_other (by omega)] at h; exact absurd (hI.c14 h) h13
    · intro k hk h
      by_cases e' : k = m
      · subst e'
        rw [hγm]
        exact ⟨hI.below.size, Blk.new _ _ _⟩
      · rw [getD_set_other (by omega)] at h
        rw [hγo k e']
        exact ⟨(hr k hk h).1, (hr k hk h).2.alloc _⟩
    · intro k k' hk hk' hne h h'
      by_cases e1 : k = m
      · subst e1
        rw [getD_set_other (by omega)] at h'
        rw [hγm, hγo k' (fun x => hne x.symm)]
        have := (hr k' hk' h').2.lt
        omega
      · by_cases e2 : k' = m
        · subst e2
          rw [getD_set_other (by omega)] at h
          rw [hγm, hγo k e1]
          have := (hr k hk h).2.lt
          omega
        · rw [getD_set_other (by omega)] at h h'
          rw [hγo k e1, hγo k' e2]
          exact hd k k' hk hk' hne h h'
    · intro h; rw [getD_set_other (by omega)] at h; exact absurd h h13
  · -- the struct is built
    obtain ⟨o', ho', hdst, hop, hg, haf'⟩ := h6.bd
    obtain rfl : o = o' := by rw [ho] at ho'; exact Option.some.inj ho'
    have hall : ∀ m : Nat, m < 6 → listed.getD (2 * m + 1) false = true := fun m hm => by
      obtain ⟨e, he, hon, hb⟩ := haf' m hm
      rw [← hon]; exact haf e he hb
    have hv : ∀ m : Nat, m < 6 → (⟨fill a0.tmps sk (fun j => listed.getD j false) (six n γ gO), a0.defers⟩ : Act).eval (.tmp (20 + 2 * m)) = sl n (γ m) := fun m hm => by
      rw [SixInv.read (sk_mk m hm) (by omega) (hall m hm), six_odd n γ gO m hm]
    have h13 : listed.getD 13 false ≠ true := fun h => by have := hI.c13 h; rw [getD_no hno] at this; cases this
    refine wpOp_value (v := six n γ gO 12) (w' := w) ho hg ?_ ?_
    · have v0 := hv 0 (by omega)
      have v1 := hv 1 (by omega)
      have v2 := hv 2 (by omega)
      have v3 := hv 3 (by omega)
      have v4 := hv 4 (by omega)
      have v5 := hv 5 (by omega)
      simp only [Nat.mul_zero, Nat.add_zero, Nat.mul_one, Nat.reduceMul, Nat.reduceAdd] at v0 v1 v2 v3 v4 v5
      show (execOp _ o).run Try.prog w = .ok (.value (.agg (orderCells n γ))) w
      simp only [execOp, hop, List.map_toArray, List.map_cons, List.map_nil, v0, v1, v2, v3, v4, v5]
      simp only [Sem.run_bind, built66 n γ w]
      rfl
    rw [hdst, SixInv.put (by decide) hil hno]
    refine ⟨hlsz', ?_, ?_, ?_, hI.below, γ, gO, rfl, ?_, ?_, ?_⟩
    · intro h k hk; rw [getD_set_other (by omega)]; exact hall k hk
    · intro h; rw [getD_set_other (by omega)] at h; exact absurd h h13
    · intro h; rw [getD_set_other (by omega)] at h; exact absurd (hI.c14 h) h13
    · intro k hk h; rw [getD_set_other (by omega)] at h; exact hr k hk h
    · intro k k' hk hk' hne h h'; rw [getD_set_other (by omega)] at h h'; exact hd k k' hk hk' hne h h'
    · intro h; rw [getD_set_other (by omega)] at h; exact absurd h h13
  · -- it is boxed
    obtain ⟨o', ho', hdst, hop, hg, e, he, hon, hb⟩ := h6.bx
    obtain rfl : o = o' := by rw [ho] at ho'; exact Option.some.inj ho'
    have h12 : listed.getD 12 false = true := by rw [← hon]; exact haf e he hb
    have hv : (⟨fill a0.tmps sk (fun j => listed.getD j false) (six n γ gO), a0.defers⟩ : Act).eval (.tmp 31) = .agg (orderCells n γ) := by
      rw [SixInv.read (i := 12) (by decide) (by omega) h12]; rfl
    have hf : fill a0.tmps sk (fun j => listed.getD j false) (six n γ gO) = fill a0.tmps sk (fun j => listed.getD j false) (six n γ w.heap.size) := by
      refine fill_congr sk a0.tmps (fun _ _ => rfl) (fun x hx hy => ?_)
      rcases cases15 x.2 (sk_15 x hx) with ⟨k, hk, e'⟩ | ⟨k, hk, e'⟩ | e' | e' | e' <;> rw [e'] at hy ⊢
      · rw [six_even _ _ _ _ hk, six_even _ _ _ _ hk]
      · rw [six_odd _ _ _ _ hk, six_odd _ _ _ _ hk]
      · rfl
      · rw [getD_no hno] at hy; cases hy
      · have := hI.c14 hy; rw [getD_no hno] at this; cases this
    refine wpOp_value (v := six n γ w.heap.size 13) (w' := w.alloc (.cells (orderCells n γ) 66)) ho hg ?_ ?_
    · simp only [execOp, hop, hv]
      simp only [orderCells, Sem.run_bind, boxed66]
      rfl
    rw [hdst, hf, SixInv.put (by decide) hil hno]
    refine ⟨hlsz', ?_, ?_, ?_, hI.below.alloc hI.below.size _, γ, w.heap.size, rfl, ?_, ?_, ?_⟩
    · intro h k hk; rw [getD_set_other (by omega)] at h ⊢; exact hI.c12 h k hk
    · intro h; rw [getD_set_other (by omega)]; exact h12
    · intro h; exact getD_set_same hil
    · intro k hk h; rw [getD_set_other (by omega)] at h; exact ⟨(hr k hk h).1, (hr k hk h).2.alloc _⟩
    · intro k k' hk hk' hne h h'; rw [getD_set_other (by omega)] at h h'; exact hd k k' hk hk' hne h h'
    · intro h; exact ⟨Blk.new _ _ _, fun k hk => (hr k hk (hI.c12 h12 k hk)).2.lt⟩
  · -- it is assigned
    obtain ⟨o', ho', hdst, hop, hg, e, he, hon, hb⟩ := h6.asg
    obtain rfl : o = o' := by rw [ho] at ho'; exact Option.some.inj ho'
    have h13 : listed.getD 13 false = true := by rw [← hon]; exact haf e he hb
    have hv : (⟨fill a0.tmps sk (fun j => listed.getD j false) (six n γ gO), a0.defers⟩ : Act).eval (.tmp 32) = six n γ gO 14 := by
      rw [SixInv.read (i := 13) (by decide) (by omega) h13]; rfl
    refine wpOp_value (v := six n γ gO 14) (w' := w) ho hg (by simp only [execOp, hop, hv]; rfl) ?_
    rw [hdst, SixInv.put (by decide) hil hno]
    refine ⟨hlsz', ?_, ?_, ?_, hI.below, γ, gO, rfl, ?_, ?_, ?_⟩
    · intro h k hk; rw [getD_set_other (by omega)] at h ⊢; exact hI.c12 h k hk
    · intro h; rw [getD_set_other (by omega)] at h ⊢; exact hI.c13 h
    · intro h; rw [getD_set_other (by omega)]; exact h13
    · intro k hk h; rw [getD_set_other (by omega)] at h; exact hr k hk h
    · intro k k' hk hk' hne h h'; rw [getD_set_other (by omega)] at h h'; exact hd k k' hk hk' hne h h'
    · intro h; rw [getD_set_other (by omega)] at h; exact hO h

/-- What the region leaves: six rows of zeros in new blocks, no two of them one; a struct of them behind all of them. -/
structure SixRows (n : Nat) (w : World) (γ : Nat → Nat) (gO : Nat) (w' : World) : Prop where
  below : Below w.heap.size w w'
  row : ∀ m, m < 6 → w.heap.size ≤ γ m ∧ Blk w' (γ m) 21 (zeros .i32 n)
  ne : ∀ m m', m < 6 → m' < 6 → m ≠ m' → γ m ≠ γ m'
  box : Blk w' gO 66 (orderCells n γ)
  lt : ∀ m, m < 6 → γ m < gO

theorem six_region {id : Nat} {a : Act} {w : World} (h6 : Six ops) (hn : n ≤ 4096) (h3 : a.tmps[3]? = some (.int .i64 (n : Int))) (hsz : 33 ≤ a.tmps.size)
    (hQ : ∀ (γ : Nat → Nat) (gO : Nat) (w' : World), SixRows n w γ gO w' → Q .normal ⟨fill a.tmps sk (fun _ => true) (six n γ gO), a.defers⟩ w') : (Code.region id ops true).wp Try.prog Q a w := by
  refine wp_region_inv (by kernel_rfl) h6.topo (SixInv n w a) (fun l _ _ h => by rw [h.lsz, h6.size]) (fun listed a' w' i o hI hi ho hno haf => six_step h6 hn h3 hsz listed a' w' i o hI hi ho hno haf) ?_ ?_
  · intro listed a' w' hI hall
    have hl := hI.lsz
    have ht : ∀ i, i < 15 → listed.getD i false = true := fun i hi => by
      have := hall i (by rw [h6.size]; exact hi)
      have hil : i < listed.size := by omega
      simpa [Array.getD, hil] using this
    obtain ⟨γ, gO, rfl, hr, hd, hO⟩ := hI.ex
    have e : fill a.tmps sk (fun i => listed.getD i false) (six n γ gO) = fill a.tmps sk (fun _ => true) (six n γ gO) := fill_congr sk a.tmps (fun x hx => ht x.2 (sk_15 x hx)) (fun _ _ _ => rfl)
    rw [e]
    exact hQ γ gO w' ⟨hI.below, fun m hm => hr m hm (ht _ (by omega)), fun m m' hm hm' hne => hd m m' hm hm' hne (ht _ (by omega)) (ht _ (by omega)), (hO (ht 13 (by omega))).1, (hO (ht 13 (by omega))).2⟩
  · rw [h6.size]
    have no : ∀ i, (Array.replicate 15 false).getD i false = false := fun i => by
      by_cases hi : i < 15 <;> simp [Array.getD, hi]
    refine ⟨by simp, ?_, ?_, ?_, (Below.refl _ _).drew, fun _ => 0, 0, ?_, ?_, ?_, ?_⟩
    · intro h; rw [no] at h; cases h
    · intro h; rw [no] at h; cases h
    · intro h; rw [no] at h; cases h
    · have e : fill a.tmps sk (fun i => (Array.replicate 15 false).getD i false) (six n (fun _ => 0) 0) = a.tmps := by
        have := fill_congr (f := fun i => (Array.replicate 15 false).getD i false) (g := fun _ => false) (val := six n (fun _ => 0) 0) (val' := six n (fun _ => 0) 0) sk a.tmps (fun x _ => no x.2) (fun _ _ _ => rfl)
        rw [this]
        rfl
      rw [e]
    · intro k _ h; rw [no] at h; cases h
    · intro k k' _ _ _ h; rw [no] at h; cases h
    · intro h; rw [no] at h; cases h

theorem fill_all (a : Act) (n : Nat) (γ : Nat → Nat) (gO : Nat) : (⟨fill a.tmps sk (fun _ => true) (six n γ gO), a.defers⟩ : Act) =
      (((((((((((((((a.put (some 19) (.int .i64 (n : Int))).put (some 20) (sl n (γ 0))).put (some 21) (.int .i64 (n : Int))).put (some 22) (sl n (γ 1))).put (some 23) (.int .i64 (n : Int))).put (some 24) (sl n (γ 2))).put (some 25) (.int .i64 (n : Int))).put (some 26) (sl n (γ 3))).put (some 27) (.int .i64 (n : Int))).put (some 28) (sl n (γ 4))).put (some 29) (.int .i64 (n : Int))).put (some 30) (sl n (γ 5))).put (some 31)
        (.agg (orderCells n γ))).put (some 32) (.pointer (some ⟨gO, 0, none⟩))).put (some 4) (.pointer (some ⟨gO, 0, none⟩))) := by
  have e0 : six n γ gO 0 = .int .i64 (n : Int) := six_even n γ gO 0 (by omega)
  have e1 : six n γ gO 1 = sl n (γ 0) := six_odd n γ gO 0 (by omega)
  have e2 : six n γ gO 2 = .int .i64 (n : Int) := six_even n γ gO 1 (by omega)
  have e3 : six n γ gO 3 = sl n (γ 1) := six_odd n γ gO 1 (by omega)
  have e4 : six n γ gO 4 = .int .i64 (n : Int) := six_even n γ gO 2 (by omega)
  have e5 : six n γ gO 5 = sl n (γ 2) := six_odd n γ gO 2 (by omega)
  have e6 : six n γ gO 6 = .int .i64 (n : Int) := six_even n γ gO 3 (by omega)
  have e7 : six n γ gO 7 = sl n (γ 3) := six_odd n γ gO 3 (by omega)
  have e8 : six n γ gO 8 = .int .i64 (n : Int) := six_even n γ gO 4 (by omega)
  have e9 : six n γ gO 9 = sl n (γ 4) := six_odd n γ gO 4 (by omega)
  have e10 : six n γ gO 10 = .int .i64 (n : Int) := six_even n γ gO 5 (by omega)
  have e11 : six n γ gO 11 = sl n (γ 5) := six_odd n γ gO 5 (by omega)
  have e12 : six n γ gO 12 = .agg (orderCells n γ) := by unfold six; rw [if_pos rfl]
  have e13 : six n γ gO 13 = .pointer (some ⟨gO, 0, none⟩) := by unfold six; rw [if_neg (by omega), if_pos (by omega)]
  have e14 : six n γ gO 14 = .pointer (some ⟨gO, 0, none⟩) := by unfold six; rw [if_neg (by omega), if_pos (by omega)]
  simp only [fill, sk, List.foldl_cons, List.foldl_nil, if_true, Act.put, e0, e1, e2, e3, e4, e5, e6, e7, e8, e9, e10, e11, e12, e13, e14]
/-- .. the frame behind it, put by put; the six blocks by names of their own. -/
theorem six_region' {id : Nat} {a : Act} {w : World} (h6 : Six ops) (hn : n ≤ 4096) (h3 : a.tmps[3]? = some (.int .i64 (n : Int))) (hsz : 33 ≤ a.tmps.size)
    (hQ : ∀ (g0 g1 g2 g3 g4 g5 gO : Nat) (w' : World), SixRows n w (fun m => match m with | 0 => g0 | 1 => g1 | 2 => g2 | 3 => g3 | 4 => g4 | _ => g5) gO w' →
      Q .normal (((((((((((((((a.put (some 19) (.int .i64 (n : Int))).put (some 20) (.slice (some ⟨g0, 0, none⟩) n n)).put (some 21) (.int .i64 (n : Int))).put (some 22) (.slice (some ⟨g1, 0, none⟩) n n)).put (some 23) (.int .i64 (n : Int))).put (some 24) (.slice (some ⟨g2, 0, none⟩) n n)).put (some 25) (.int .i64 (n : Int))).put (some 26) (.slice (some ⟨g3, 0, none⟩) n n)).put (some 27) (.int .i64 (n : Int))).put (some 28) (.slice (some ⟨g4, 0, none⟩) n n)).put (some 29) (.int .i64 (n : Int))).put (some 30) (.slice (some ⟨g5, 0, none⟩) n n)).put (some 31)
        (.agg #[.int .i64 0, .slice (some ⟨g0, 0, none⟩) n n, .slice (some ⟨g1, 0, none⟩) n n, .slice (some ⟨g2, 0, none⟩) n n, .slice (some ⟨g3, 0, none⟩) n n, .slice (some ⟨g4, 0, none⟩) n n, .slice (some ⟨g5, 0, none⟩) n n])).put (some 32) (.pointer (some ⟨gO, 0, none⟩))).put (some 4) (.pointer (some ⟨gO, 0, none⟩))) w') : (Code.region id ops true).wp Try.prog Q a w := by
  refine six_region h6 hn h3 hsz fun γ gO w' hr => ?_
  rw [fill_all]
  have := hQ (γ 0) (γ 1) (γ 2) (γ 3) (γ 4) (γ 5) gO w' ⟨hr.below, fun m hm => ?_, fun m m' hm hm' hne => ?_, hr.box, fun m hm => ?_⟩
  · exact this
  · match m, hm with
    | 0, _ => exact hr.row 0 (by omega)
    | 1, _ => exact hr.row 1 (by omega)
    | 2, _ => exact hr.row 2 (by omega)
    | 3, _ => exact hr.row 3 (by omega)
    | 4, _ => exact hr.row 4 (by omega)
    | 5, _ => exact hr.row 5 (by omega)
  · have e : ∀ m, m < 6 → (match m with | 0 => γ 0 | 1 => γ 1 | 2 => γ 2 | 3 => γ 3 | 4 => γ 4 | _ => γ 5) = γ m := fun m hm => by
      match m, hm with
      | 0, _ => rfl
      | 1, _ => rfl
      | 2, _ => rfl
      | 3, _ => rfl
      | 4, _ => rfl
      | 5, _ => rfl
    rw [e m hm, e m' hm']
    exact hr.ne m m' hm hm' hne
  · match m, hm with
    | 0, _ => exact hr.lt 0 (by omega)
    | 1, _ => exact hr.lt 1 (by omega)
    | 2, _ => exact hr.lt 2 (by omega)
    | 3, _ => exact hr.lt 3 (by omega)
    | 4, _ => exact hr.lt 4 (by omega)
    | 5, _ => exact hr.lt 5 (by omega)
end
end Go.Proofs.Qxb6603687a
