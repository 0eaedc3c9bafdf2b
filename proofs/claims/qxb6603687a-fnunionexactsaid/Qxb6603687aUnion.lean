/-
  union (29).
-/
import Derived.Test.Qxb6603687aZzSet
import Derived.Deep.RegionWith
import Derived.Deep.AppendLies
import Derived.Deep.CutBlock
namespace Go.Proofs.Qxb6603687a
open Go.RowKit Go.Maps
set_option linter.unusedVariables false

/-- A set that lies in block b, which is not the row g0. -/
structure Src (w : World) (g0 : Option Nat) (b off : Nat) (S : Wd) : Prop where
  c : ∀ k, k < S.n → w.cell? ⟨b, off + k * 2, none⟩ = some (.int .i64 (S.ix k)) ∧ w.cell? ⟨b, off + k * 2 + 1, none⟩ = some (.int .u64 (S.bt k))
  ne : 0 < S.n → some b ≠ g0
theorem Src.at_ {w wr : World} {g0 : Option Nat} {b off : Nat} {S : Wd} (h : Src w g0 b off S) (hg : w.grownBy wr g0) {k : Nat} (hk : k < S.n) :
    wr.cell? ⟨b, off + k * 2, none⟩ = some (.int .i64 (S.ix k)) ∧ wr.cell? ⟨b, off + k * 2 + 1, none⟩ = some (.int .u64 (S.bt k)) := by
  obtain ⟨h1, h2⟩ := h.c k hk
  exact ⟨(hg.cell_far _ (cell_lt h1) (h.ne (by omega))).trans h1, (hg.cell_far _ (cell_lt h2) (h.ne (by omega))).trans h2⟩
theorem Src.lt {w : World} {g0 : Option Nat} {b off : Nat} {S : Wd} (h : Src w g0 b off S) (hk : 0 < S.n) : b < w.heap.size := cell_lt (h.c 0 hk).1
theorem Ints.far {w wr : World} {row : Option Nat} {ad : Option Addr} {kd : IntKind} {n : Nat} {f : Nat → Int} (h : Ints w ad kd n f) (hg : w.grownBy wr row) (hne : 0 < n → ∀ b off, ad = some ⟨b, off, none⟩ → some b ≠ row) : Ints wr ad kd n f := by
  rcases h with h | ⟨b, off, ha, h⟩
  · exact .inl h
  · exact .inr ⟨b, off, ha, fun k hk => (hg.cell_far _ (cell_lt (h k hk)) (hne (by omega) b off ha)).trans (h k hk)⟩
def lenOf : Value → Nat
  | .slice _ n _ => n
  | _ => 0

/-- What stands still while union runs. -/
structure UEnv (w : World) (g0 : Option Nat) (gL : Nat) (first : Int) (ad : Option Addr) (n cap : Nat) (next : Int) (f : Nat → Int) (A B : Wd) (bA oA bB oB : Nat) : Prop where
  box : LiveBox w gL first ad n cap next
  boxNe : some gL ≠ g0
  ints : Ints w ad .u64 n f
  intsNe : 0 < n → ∀ b off, ad = some ⟨b, off, none⟩ → some b ≠ g0
  srcA : Src w g0 bA oA A
  srcB : Src w g0 bB oB B
  hn : n ≤ 65536
  hf : (Lit.int .i64 first).wf = true
  hfn : first + (n : Int) ≤ 9223372036854775807
  sA : Sorted A
  sB : Sorted B
  iA : ∀ k, k < A.n → (Lit.int .i64 (A.ix k)).wf = true
  iB : ∀ k, k < B.n → (Lit.int .i64 (B.ix k)).wf = true
  wA : ∀ k, k < A.n → (Lit.int .u64 (A.bt k)).wf = true
  wB : ∀ k, k < B.n → (Lit.int .u64 (B.bt k)).wf = true
  nA : A.n ≤ 65536
  nB : B.n ≤ 65536

/-- At the head of a round. -/
structure URel (w : World) (g0 : Option Nat) (base : Nat) (A B D : Wd) (L : Int → Int) (bA oA bB oB : Nat) (i j : Nat) (O : Wd) (dd aa bb : Option Addr) (dc : Nat) (wr : World) : Prop where
  hi : i ≤ A.n
  hj : j ≤ B.n
  ha : i < A.n → aa = some ⟨bA, oA + i * 2, none⟩
  hb : j < B.n → bb = some ⟨bB, oB + j * 2, none⟩
  own : wr.ownsRow base 82 2 (.slice dd O.n dc) O.n (flatW O O.n)
  blk : Value.ownBlock (.slice dd O.n dc) = g0 ∨ ∃ g, Value.ownBlock (.slice dd O.n dc) = some g ∧ w.heap.size ≤ g
  inv : UInv A B D L i j O
  grown : w.grownBy wr g0

def UPost (w : World) (g0 : Option Nat) (base : Nat) (A B D : Wd) (L : Int → Int) (e : Ending) (w' : World) : Prop :=
  ∃ (O : Wd) (dd : Option Addr) (dc : Nat), e = .returned (.slice dd O.n dc) ∧ w'.ownsRow base 82 2 (.slice dd O.n dc) O.n (flatW O O.n) ∧ UInv A B D L A.n B.n O ∧ w.grownBy w' g0

theorem grownBy_far {w wr w2 : World} {g0 row : Option Nat} (h : w.grownBy wr g0) (h2 : wr.grownBy w2 row) (hrow : ∀ k, row = some k → w.heap.size ≤ k ∨ some k = g0) : w.grownBy w2 g0 := by
  refine ⟨h2.os.trans h.os, h2.tape.trans h.tape, h2.output.trans h.output, Nat.le_trans h.size h2.size, fun k hk hne => ?_⟩
  rw [h2.block k (Nat.lt_of_lt_of_le hk h.size) (fun e => by rcases hrow k e.symm with h | h; (omega); exact hne h)]
  exact h.block k hk hne
section
variable {w : World} {g0 : Option Nat} {base : Nat} {A B D : Wd} {L : Int → Int} {bA oA bB oB : Nat} {i j : Nat} {O : Wd} {dd aa bb : Option Addr} {dc : Nat} {wr w2 : World}
theorem URel.step (h : URel w g0 base A B D L bA oA bB oB i j O dd aa bb dc wr) {row : Option Nat} (h2 : wr.grownBy w2 row) (hrow : ∀ k, row = some k → w.heap.size ≤ k) (hown : ∀ g, Value.ownBlock (.slice dd O.n dc) = some g → row ≠ some g) : URel w g0 base A B D L bA oA bB oB i j O dd aa bb dc w2 := by
  refine { h with own := h.own.kept h2 ?_, grown := grownBy_far h.grown h2 (fun k e => .inl (hrow k e)) }
  cases he : Value.ownBlock (.slice dd O.n dc) with
  | none => exact .inl rfl
  | some g => exact .inr (fun e => hown g he e.symm)
theorem URel.same (h : URel w g0 base A B D L bA oA bB oB i j O dd aa bb dc wr) (h2 : wr.grownBy w2 none) : URel w g0 base A B D L bA oA bB oB i j O dd aa bb dc w2 := h.step h2 (fun k e => by cases e) (fun g _ e => by cases e)
theorem URel.fresh (h : URel w g0 base A B D L bA oA bB oB i j O dd aa bb dc wr) (g : Nat) (hg : Value.ownBlock (.slice dd O.n dc) = some g) : g < wr.heap.size := (h.own.lt g hg).2
end

/-- Behind the switch: the word (x, v) is chosen, and lies in block gV. -/
structure UMid (w : World) (g0 : Option Nat) (base : Nat) (A B D : Wd) (L : Int → Int) (bA oA bB oB : Nat) (i j i2 j2 : Nat) (O : Wd) (dd aa bb : Option Addr) (dc : Nat) (gV : Nat) (x v : Int) (wr : World) : Prop where
  hi : i2 ≤ A.n
  hj : j2 ≤ B.n
  lower : (A.n - i2) + (B.n - j2) < (A.n - i) + (B.n - j)
  ha : i2 < A.n → aa = some ⟨bA, oA + i2 * 2, none⟩
  hb : j2 < B.n → bb = some ⟨bB, oB + j2 * 2, none⟩
  own : wr.ownsRow base 82 2 (.slice dd O.n dc) O.n (flatW O O.n)
  blk : Value.ownBlock (.slice dd O.n dc) = g0 ∨ ∃ g, Value.ownBlock (.slice dd O.n dc) = some g ∧ w.heap.size ≤ g
  fresh : ∀ g, Value.ownBlock (.slice dd O.n dc) = some g → g < gV
  vUp : w.heap.size ≤ gV
  box : Blk wr gV 82 #[.int .i64 x, .int .u64 v]
  xwf : (Lit.int .i64 x).wf = true
  skip : andB v (L x) = 0 → UInv A B D L i2 j2 O
  put : andB v (L x) ≠ 0 → UInv A B D L i2 j2 (snoc O x (andB v (L x)))
  on : O.n ≤ D.n + i + j
  grown : w.grownBy wr g0
section
variable {w : World} {g0 : Option Nat} {base : Nat} {A B D : Wd} {L : Int → Int} {bA oA bB oB : Nat} {i j i2 j2 : Nat} {O : Wd} {dd aa bb : Option Addr} {dc : Nat} {gV : Nat} {x v : Int} {wr w2 : World}
theorem UMid.same (h : UMid w g0 base A B D L bA oA bB oB i j i2 j2 O dd aa bb dc gV x v wr) (h2 : wr.grownBy w2 none) : UMid w g0 base A B D L bA oA bB oB i j i2 j2 O dd aa bb dc gV x v w2 := by
  refine { h with own := h.own.kept h2 ?_, box := h.box.kept h2 (by simp), grown := grownBy_far h.grown h2 (fun k e => by cases e) }
  cases he : Value.ownBlock (.slice dd O.n dc) with
  | none => exact .inl rfl
  | some g => exact .inr (by simp)
end
theorem uon' {A B D : Wd} {L : Int → Int} {i j : Nat} {O : Wd} (h : UInv A B D L i j O) : O.n ≤ D.n + i + j := by
  have h1 := ca_le A B L i
  have h2 := cb_le A B L j
  have := h.n
  omega
theorem umid_mk {w : World} {g0 : Option Nat} {base : Nat} {A B D : Wd} {L : Int → Int} {bA oA bB oB : Nat} {i j i2 j2 : Nat} {O : Wd} {dd aa bb aa' bb' : Option Addr} {dc : Nat} {gV : Nat} {x v : Int} {wr : World}
    (hR : URel w g0 base A B D L bA oA bB oB i j O dd aa bb dc wr) (hV : Blk wr gV 82 #[.int .i64 0, .int .u64 0]) (hfr : ∀ g, Value.ownBlock (.slice dd O.n dc) = some g → g < gV) (hwV : w.heap.size ≤ gV)
    (hi : i2 ≤ A.n) (hj : j2 ≤ B.n) (lower : (A.n - i2) + (B.n - j2) < (A.n - i) + (B.n - j)) (ha : i2 < A.n → aa' = some ⟨bA, oA + i2 * 2, none⟩) (hb : j2 < B.n → bb' = some ⟨bB, oB + j2 * 2, none⟩)
    (xwf : (Lit.int .i64 x).wf = true) (skip : andB v (L x) = 0 → UInv A B D L i2 j2 O) (put : andB v (L x) ≠ 0 → UInv A B D L i2 j2 (snoc O x (andB v (L x)))) :
    UMid w g0 base A B D L bA oA bB oB i j i2 j2 O dd aa' bb' dc gV x v ((wr.setCell ⟨gV, 0, none⟩ (.int .i64 x)).setCell ⟨gV, 1, none⟩ (.int .u64 v)).drew := by
  have g1 := grownBy_set wr ⟨gV, 0, none⟩ (.int .i64 x)
  have g2 := grownBy_set (wr.setCell ⟨gV, 0, none⟩ (.int .i64 x)) ⟨gV, 1, none⟩ (.int .u64 v)
  have hne : ∀ g, Value.ownBlock (.slice dd O.n dc) = some g → (some gV : Option Nat) ≠ some g := fun g h e => by
    have := hfr g h
    cases e
    omega
  have hR1 := hR.step g1 (fun k e => by cases e; exact hwV) hne
  have hR2 := hR1.step g2 (fun k e => by cases e; exact hwV) hne
  have hR3 := hR2.same (grownBy_drew _)
  have hb2 : Blk ((wr.setCell ⟨gV, 0, none⟩ (.int .i64 x)).setCell ⟨gV, 1, none⟩ (.int .u64 v)) gV 82 #[.int .i64 x, .int .u64 v] := (hV.set 0 (.int .i64 x)).set 1 (.int .u64 v)
  exact ⟨hi, hj, lower, ha, hb, hR3.own, hR.blk, hfr, hwV, hb2.drew, xwf, skip, put, uon' hR.inv, hR3.grown⟩
theorem slice_eq {ad : Option Addr} {n m : Nat} (h : n = m) : Value.slice ad n n = Value.slice ad m m := by rw [h]

theorem adr_eq {b x y : Nat} (h : x = y) : (some ⟨b, x, none⟩ : Option Addr) = some ⟨b, y, none⟩ := by rw [h]
/-- Behind 'w.bits &= ..'. -/
structure ULate (w : World) (g0 : Option Nat) (base : Nat) (A B D : Wd) (L : Int → Int) (bA oA bB oB : Nat) (i j i2 j2 : Nat) (O : Wd) (dd aa bb : Option Addr) (dc : Nat) (gV : Nat) (x v : Int) (wr : World) : Prop where
  hi : i2 ≤ A.n
  hj : j2 ≤ B.n
  lower : (A.n - i2) + (B.n - j2) < (A.n - i) + (B.n - j)
  ha : i2 < A.n → aa = some ⟨bA, oA + i2 * 2, none⟩
  hb : j2 < B.n → bb = some ⟨bB, oB + j2 * 2, none⟩
  own : wr.ownsRow base 82 2 (.slice dd O.n dc) O.n (flatW O O.n)
  blk : Value.ownBlock (.slice dd O.n dc) = g0 ∨ ∃ g, Value.ownBlock (.slice dd O.n dc) = some g ∧ w.heap.size ≤ g
  vUp : w.heap.size ≤ gV
  box : Blk wr gV 82 #[.int .i64 x, .int .u64 v]
  skip : v = 0 → UInv A B D L i2 j2 O
  put : v ≠ 0 → UInv A B D L i2 j2 (snoc O x v)
  on : O.n ≤ D.n + i + j
  grown : w.grownBy wr g0
section
variable {w : World} {g0 : Option Nat} {base : Nat} {A B D : Wd} {L : Int → Int} {bA oA bB oB : Nat} {i j i2 j2 : Nat} {O : Wd} {dd aa bb : Option Addr} {dc : Nat} {gV : Nat} {x v : Int} {wr w2 : World}
theorem UMid.late (h : UMid w g0 base A B D L bA oA bB oB i j i2 j2 O dd aa bb dc gV x v wr) (h2 : wr.grownBy w2 none) (v' : Int) (hv : v' = andB v (L x)) : ULate w g0 base A B D L bA oA bB oB i j i2 j2 O dd aa bb dc gV x v' (w2.setCell ⟨gV, 1, none⟩ (.int .u64 v')) := by
  subst hv
  have h := h.same h2
  have g1 := grownBy_set w2 ⟨gV, 1, none⟩ (.int .u64 (andB v (L x)))
  refine ⟨h.hi, h.hj, h.lower, h.ha, h.hb, h.own.kept g1 ?_, h.blk, h.vUp, h.box.set 1 _, h.skip, h.put, h.on, grownBy_far h.grown g1 (fun k e => by cases e; exact .inl h.vUp)⟩
  cases he : Value.ownBlock (.slice dd O.n dc) with
  | none => exact .inl rfl
  | some g => exact .inr (fun e => by have h3 := h.fresh g he; have h4 : g = gV := Option.some.inj e; omega)
theorem ULate.same (h : ULate w g0 base A B D L bA oA bB oB i j i2 j2 O dd aa bb dc gV x v wr) (h2 : wr.grownBy w2 none) : ULate w g0 base A B D L bA oA bB oB i j i2 j2 O dd aa bb dc gV x v w2 := by
  refine { h with own := h.own.kept h2 ?_, box := h.box.kept h2 (by simp), grown := grownBy_far h.grown h2 (fun k e => by cases e) }
  cases he : Value.ownBlock (.slice dd O.n dc) with
  | none => exact .inl rfl
  | some g => exact .inr (by simp)
theorem ULate.zero (h : ULate w g0 base A B D L bA oA bB oB i j i2 j2 O dd aa bb dc gV x v wr) (hv : v = 0) : URel w g0 base A B D L bA oA bB oB i2 j2 O dd aa bb dc wr :=
  ⟨h.hi, h.hj, h.ha, h.hb, h.own, h.blk, h.skip hv, h.grown⟩
theorem ULate.done (h : ULate w g0 base A B D L bA oA bB oB i j i2 j2 O dd aa bb dc gV x v wr) (hv : v ≠ 0) {o : Obj} {g cap H : Nat} (ho : w2.ownsRow base 82 2 (.slice (some ⟨g, 0, none⟩) (O.n + 1) cap) (O.n + 1) (flatW O O.n ++ [.int .i64 x, .int .u64 v])) (hg : (wr.alloc o).grownBy w2 (Value.ownBlock (.slice dd O.n dc))) (hat : Value.ownBlock (.slice dd O.n dc) = some g ∨ g = H) (hH : w.heap.size ≤ H) :
    URel w g0 base A B D L bA oA bB oB i2 j2 (snoc O x v) (some ⟨g, 0, none⟩) aa bb cap w2 := by
  have h1 := h.same (World.grownBy_alloc wr o none)
  refine ⟨h.hi, h.hj, h.ha, h.hb, ?_, ?_, h.put hv, grownBy_far h1.grown hg (fun k e => ?_)⟩
  · have := snoc_flat O x v
    rw [this]
    exact ho
  · rcases hat with e | e
    · rcases h.blk with h2 | ⟨g', h2, h3⟩
      · exact .inl (by rw [← h2, e]; rfl)
      · rw [e] at h2
        cases h2
        exact .inr ⟨_, rfl, h3⟩
    · exact .inr ⟨g, rfl, by omega⟩
  · rcases h.blk with h2 | ⟨g', h2, h3⟩
    · exact .inr (by rw [← h2, e])
    · rw [e] at h2
      cases h2
      exact .inl h3
end

attribute [local go_sem ↓] Go.wp_at_zero Go.wp_at_succ
set_option maxRecDepth 100000 in
set_option maxHeartbeats 600000 in
theorem union_any (w : World) (g0 : Option Nat) (base gL : Nat) (first : Int) (ad : Option Addr) (n cap : Nat) (next : Int) (f : Nat → Int) (A B D : Wd) (bA oA bB oB : Nat) (aa bb dd : Option Addr) (dc : Nat)
    (hE : UEnv w g0 gL first ad n cap next f A B bA oA bB oB) (hD : D.n ≤ 65536)
    (h0 : URel w g0 base A B D (live first n f) bA oA bB oB 0 0 D dd aa bb dc w) (hbase : base ≤ w.heap.size) :
    Calls Try.prog 29 #[.pointer (some ⟨gL, 0, none⟩), .slice dd D.n dc, .slice aa A.n A.n, .slice bb B.n B.n] w fun e w' => UPost w g0 base A B D (live first n f) e w' := by
  have hnA := hE.nA
  have hnB := hE.nB
  go_enter Try.func29, Try.ntmps29
  go_wp2
  go_loopw [1, 2, 3] (fun d a b wr => ∃ i j O dd aa bb dc, d = .slice dd O.n dc ∧ a = .slice aa (A.n - i) (A.n - i) ∧ b = .slice bb (B.n - j) (B.n - j) ∧ URel w g0 base A B D (live first n f) bA oA bB oB i j O dd aa bb dc wr) (fun d a b _ => lenOf a + lenOf b)
  case atStart => exact ⟨0, 0, D, dd, aa, bb, dc, rfl, rfl, rfl, h0⟩
  case round =>
    clear h0
    obtain ⟨i, j, O, dd, aa, bb, dc, rfl, rfl, rfl, hR⟩ := hrel
    have hi := hR.hi
    have hj := hR.hj
    by_cases hend : A.n - i = 0 ∧ B.n - j = 0
    · obtain ⟨hAe, hBe⟩ := hend
      have hie : i = A.n := by omega
      have hje : j = B.n := by omega
      subst hie hje
      simp only [Nat.sub_self] at *
      go_wp2
      go_ret
      exact ⟨O, _, _, rfl, hR.own, hR.inv, hR.grown⟩
    · have hfr0 := hR.fresh
      have hwl := hR.grown.size
      have hsA := hE.sA
      have hsB := hE.sB
      by_cases hA0 : A.n - i = 0
      · obtain ⟨s, hs⟩ : ∃ s, B.n - j = s + 1 := ⟨B.n - j - 1, by omega⟩
        have hbe := hR.hb (by omega)
        have hnx := hR.inv.nextB hsA hsB hE.wB (by omega) (.inl (by omega))
        have HNX : Hid _ := hnx
        have hxw := hE.iB j (by omega)
        clear hnx
        rw [hA0, hs]
        go_upto_block 2 with fail
        obtain ⟨gV, w1, hgV, hw1, hR1, hV1, hwV, hfr⟩ : ∃ gV w1, wr.heap.size = gV ∧ wr.alloc (.cells #[.int .i64 0, .int .u64 0] 82) = w1 ∧ URel w g0 base A B D (live first n f) bA oA bB oB i j O dd aa bb dc w1 ∧ Blk w1 gV 82 #[.int .i64 0, .int .u64 0] ∧ w.heap.size ≤ gV ∧ (∀ g, Value.ownBlock (.slice dd O.n dc) = some g → g < gV) :=
          ⟨_, _, rfl, rfl, hR.same (World.grownBy_alloc _ _ _), Blk.new _ _ _, hwl, hfr0⟩
        rw [hw1, hgV] at *
        clear hw1 hwl hR hfr0
        go_cut [2, 3] from 10 to 95 (fun a b wx => ∃ i2 j2 aa bb x v, a = .slice aa (A.n - i2) (A.n - i2) ∧ b = .slice bb (B.n - j2) (B.n - j2) ∧ UMid w g0 base A B D (live first n f) bA oA bB oB i j i2 j2 O dd aa bb dc gV x v wx)
        case first =>
          subst hbe
          have hlB := hE.srcB.lt (by omega)
          have hneB : bB ≠ gV := by omega
          have hneB' : gV ≠ bB := hneB.symm
          have i1s : (1 : Int) ≤ (s : Int) + 1 := by omega
          have i2s : (0 : Int) < (s : Int) + 1 := by omega
          have i3s : (((s : Int) + 1) == 0) = false := by simp; omega
          go_wp2
          go_quiet (fail)
          go_wp2
          have hR2 := hR1.same (grownBy_drewN w1 nq)
          have hV2 := Blk.drewN hV1 nq
          obtain ⟨w2, hw2⟩ : ∃ w2, w1.drewN nq = w2 := ⟨_, rfl⟩
          rw [hw2] at hR2 hV2 ⊢
          clear hw2 hR1 hV1
          go_quiet (fail)
          go_wp2
          have hR3 := hR2.same (grownBy_drewN w2 nq)
          have hV3 := Blk.drewN hV2 nq
          obtain ⟨w3, hw3⟩ : ∃ w3, w2.drewN nq = w3 := ⟨_, rfl⟩
          rw [hw3] at hR3 hV3 ⊢
          clear hw3 hR2 hV2
          obtain ⟨c1, c2⟩ := hE.srcB.at_ hR3.grown (k := j) (by omega)
          have v0 := hV3.cellIs (j := 0) rfl
          have v1 := hV3.cellIs (j := 1) rfl
          have f0 := hV3.frozen 0
          have f1 := hV3.frozen 1
          go_region_held3 (fun w' => w'.cell? ⟨bB, oB + j * 2, none⟩ = some (.int .i64 (B.ix j)) ∧ w'.cell? ⟨bB, oB + j * 2 + 1, none⟩ = some (.int .u64 (B.bt j))) (go_keep) (fail)
          go_wp2
          all_goals go_meet
          all_goals exact ⟨i, j + 1, _, _, B.ix j, B.bt j, slice_eq (by omega), slice_eq (by omega), umid_mk hR3 hV3 hfr hwV (by omega) (by omega) (by omega) (fun h => by first | exact absurd h (by omega) | exact adr_eq (by omega) | exact hR3.ha (by omega)) (fun h => by first | exact absurd h (by omega) | exact adr_eq (by omega) | exact hR3.hb (by omega)) hxw HNX.out.1 HNX.out.2⟩
        case rest =>
          clear hR1 hV1
          obtain ⟨i2, j2, aa2, bb2, x, v, rfl, rfl, hM⟩ := hcut
          go_upto_region 9 with fail
          obtain ⟨v', hv'⟩ : ∃ v', bits .and .u64 v (live first n f x) = v' := ⟨_, rfl⟩
          go_cut [] from 10 to 95 (fun wx => ULate w g0 base A B D (live first n f) bA oA bB oB i j i2 j2 O dd aa2 bb2 dc gV x v' wx)
          case first =>
            have v0 := hM.box.cellIs (j := 0) rfl
            have v1 := hM.box.cellIs (j := 1) rfl
            have f1 := hM.box.frozen 1
            have hbx : LiveBox wc gL first ad n cap next := hE.box.kept hM.grown hE.boxNe
            have hbi : Ints wc ad .u64 n f := hE.ints.far hM.grown hE.intsNe
            have HBX : Hid (LiveBox wc gL first ad n cap next) := hbx
            have HBI : Hid (Ints wc ad .u64 n f) := hbi
            clear hbx hbi
            go_region_with (go_at_call 32; refine (word_any gL first ad n cap next f x wc.drew hE.hn hE.hf hM.xwf hE.hfn (show LiveBox wc.drew gL first ad n cap next from HBX.out) (show Ints wc.drew ad .u64 n f from HBI.out)).mono ?_; rintro e wz ⟨rfl, m, rfl⟩)
            all_goals (go_wp2_with fail)
            all_goals go_meet
            all_goals exact hM.late (grownBy_drewN _ _) v' hv'.symm
          case rest =>
            have hL := hcut
            clear hcut hv' hM
            have v0 := hL.box.cellIs (j := 0) rfl
            have v1 := hL.box.cellIs (j := 1) rfl
            by_cases hv0 : v' = 0
            · have hvb : (v' != 0) = false := by simp [hv0]
              have HL : Hid (v' = 0) := hv0
              clear hv0
              go_wp2
              go_roundw
              case rel => exact ⟨i2, j2, O, dd, aa2, bb2, dc, rfl, rfl, rfl, hL.zero HL.out⟩
              case measure => have := hL.lower; simp [lenOf]; omega
            · have hvb : (v' != 0) = true := by simp [hv0]
              have hon := hL.on
              have hgs := hL.grown.size
              obtain ⟨i82, hi82, hz0, hz1, hz2⟩ := info_parts info82
              go_wp2_with (at_builtin; refine wpList_append_lies _ rfl (.tmp 92) (.tmp 94) 78 rfl base 82 i82 _ 2 16 Try.underlying78 hi82 hz0 hz1 hz2 rfl (by omega) (.slice dd O.n dc) O.n _ rfl (World.ownsRow.alloc hL.own _) ⟨wc.heap.size, 0, none⟩ 1 1 [.int .i64 x, .int .u64 v'] rfl rfl (World.news_of_block (Blk.new wc 82 #[.int .i64 x, .int .u64 v'])) (by intro u hu; simp at hu; rcases hu with rfl | rfl <;> rfl) (by omega) (by unfold maxLen; omega) (by omega) (by simp; omega) (wc.heap.size + 1) (by simp) ?_; intro g cap' w6 ho hg hat hlt6)
              have hfin := hL.done hv0 ho hg hat (by omega)
              go_roundw
              case rel => exact ⟨i2, j2, snoc O x v', _, aa2, bb2, cap', rfl, rfl, rfl, hfin⟩
              case measure => have := hL.lower; simp [lenOf]; omega
      · obtain ⟨r, hr⟩ : ∃ r, A.n - i = r + 1 := ⟨A.n - i - 1, by omega⟩
        have hae := hR.ha (by omega)
        rw [hr]
        go_upto_block 2 with fail
        obtain ⟨gV, w1, hgV, hw1, hR1, hV1, hwV, hfr⟩ : ∃ gV w1, wr.heap.size = gV ∧ wr.alloc (.cells #[.int .i64 0, .int .u64 0] 82) = w1 ∧ URel w g0 base A B D (live first n f) bA oA bB oB i j O dd aa bb dc w1 ∧ Blk w1 gV 82 #[.int .i64 0, .int .u64 0] ∧ w.heap.size ≤ gV ∧ (∀ g, Value.ownBlock (.slice dd O.n dc) = some g → g < gV) :=
          ⟨_, _, rfl, rfl, hR.same (World.grownBy_alloc _ _ _), Blk.new _ _ _, hwl, hfr0⟩
        rw [hw1, hgV] at *
        clear hw1 hwl hR hfr0
        go_cut [2, 3] from 10 to 95 (fun a b wx => ∃ i2 j2 aa bb x v, a = .slice aa (A.n - i2) (A.n - i2) ∧ b = .slice bb (B.n - j2) (B.n - j2) ∧ UMid w g0 base A B D (live first n f) bA oA bB oB i j i2 j2 O dd aa bb dc gV x v wx)
        case first =>
          subst hae
          have hlA := hE.srcA.lt (by omega)
          have hneA : bA ≠ gV := by omega
          have hneA' : gV ≠ bA := hneA.symm
          have i1r : (1 : Int) ≤ (r : Int) + 1 := by omega
          have i2r : (0 : Int) < (r : Int) + 1 := by omega
          have i3r : (((r : Int) + 1) == 0) = false := by simp; omega
          by_cases hB0 : B.n - j = 0
          · have hnx := hR1.inv.nextA hsA hsB hE.wA (by omega) (.inl (by omega))
            have HNX : Hid _ := hnx
            have hxw := hE.iA i (by omega)
            clear hnx
            rw [hB0]
            go_wp2
            go_quiet (fail)
            go_wp2
            have hR2 := hR1.same (grownBy_drewN w1 nq)
            have hV2 := Blk.drewN hV1 nq
            obtain ⟨w2, hw2⟩ : ∃ w2, w1.drewN nq = w2 := ⟨_, rfl⟩
            rw [hw2] at hR2 hV2 ⊢
            clear hw2 hR1 hV1
            obtain ⟨c1, c2⟩ := hE.srcA.at_ hR2.grown (k := i) (by omega)
            have v0 := hV2.cellIs (j := 0) rfl
            have v1 := hV2.cellIs (j := 1) rfl
            have f0 := hV2.frozen 0
            have f1 := hV2.frozen 1
            go_region_held3 (fun w' => w'.cell? ⟨bA, oA + i * 2, none⟩ = some (.int .i64 (A.ix i)) ∧ w'.cell? ⟨bA, oA + i * 2 + 1, none⟩ = some (.int .u64 (A.bt i))) (go_keep) (fail)
            go_wp2
            all_goals go_meet
            all_goals exact ⟨i + 1, j, _, _, A.ix i, A.bt i, slice_eq (by omega), slice_eq (by omega), umid_mk hR2 hV2 hfr hwV (by omega) (by omega) (by omega) (fun h => by first | exact absurd h (by omega) | exact adr_eq (by omega) | exact hR2.ha (by omega)) (fun h => by first | exact absurd h (by omega) | exact adr_eq (by omega) | exact hR2.hb (by omega)) hxw HNX.out.1 HNX.out.2⟩
          · obtain ⟨s, hs⟩ : ∃ s, B.n - j = s + 1 := ⟨B.n - j - 1, by omega⟩
            have hbe := hR1.hb (by omega)
            subst hbe
            have hlB := hE.srcB.lt (by omega)
            have hneB : bB ≠ gV := by omega
            have hneB' : gV ≠ bB := hneB.symm
            have i1s : (1 : Int) ≤ (s : Int) + 1 := by omega
            have i2s : (0 : Int) < (s : Int) + 1 := by omega
            have i3s : (((s : Int) + 1) == 0) = false := by simp; omega
            obtain ⟨c1, c2⟩ := hE.srcA.at_ hR1.grown (k := i) (by omega)
            obtain ⟨d1, d2⟩ := hE.srcB.at_ hR1.grown (k := j) (by omega)
            rw [hs]
            by_cases hlt : A.ix i < B.ix j
            · have hnx := hR1.inv.nextA hsA hsB hE.wA (by omega) (.inr hlt)
              have HNX : Hid _ := hnx
              have hxw := hE.iA i (by omega)
              clear hnx
              go_wp2
              go_quiet (fail)
              go_wp2
              have hR2 := hR1.same (grownBy_drewN w1 nq)
              have hV2 := Blk.drewN hV1 nq
              obtain ⟨w2, hw2⟩ : ∃ w2, w1.drewN nq = w2 := ⟨_, rfl⟩
              rw [hw2] at hR2 hV2 ⊢
              clear hw2 hR1 hV1
              clear c1 c2 d1 d2
              obtain ⟨c1, c2⟩ := hE.srcA.at_ hR2.grown (k := i) (by omega)
              have v0 := hV2.cellIs (j := 0) rfl
              have v1 := hV2.cellIs (j := 1) rfl
              have f0 := hV2.frozen 0
              have f1 := hV2.frozen 1
              go_region_held3 (fun w' => w'.cell? ⟨bA, oA + i * 2, none⟩ = some (.int .i64 (A.ix i)) ∧ w'.cell? ⟨bA, oA + i * 2 + 1, none⟩ = some (.int .u64 (A.bt i))) (go_keep) (fail)
              go_wp2
              all_goals go_meet
              all_goals exact ⟨i + 1, j, _, _, A.ix i, A.bt i, slice_eq (by omega), slice_eq (by omega), umid_mk hR2 hV2 hfr hwV (by omega) (by omega) (by omega) (fun h => by first | exact absurd h (by omega) | exact adr_eq (by omega) | exact hR2.ha (by omega)) (fun h => by first | exact absurd h (by omega) | exact adr_eq (by omega) | exact hR2.hb (by omega)) hxw HNX.out.1 HNX.out.2⟩
            · have hlt' : decide (A.ix i < B.ix j) = false := by simp; omega
              by_cases hgt : B.ix j < A.ix i
              · have hnx := hR1.inv.nextB hsA hsB hE.wB (by omega) (.inr hgt)
                have HNX : Hid _ := hnx
                have hxw := hE.iB j (by omega)
                clear hnx
                go_wp2
                go_quiet (fail)
                go_wp2
                have hR2 := hR1.same (grownBy_drewN w1 nq)
                have hV2 := Blk.drewN hV1 nq
                obtain ⟨w2, hw2⟩ : ∃ w2, w1.drewN nq = w2 := ⟨_, rfl⟩
                rw [hw2] at hR2 hV2 ⊢
                clear hw2 hR1 hV1
                clear c1 c2 d1 d2
                obtain ⟨c1, c2⟩ := hE.srcA.at_ hR2.grown (k := i) (by omega)
                obtain ⟨d1, d2⟩ := hE.srcB.at_ hR2.grown (k := j) (by omega)
                go_quiet (fail)
                go_wp2
                have hR3 := hR2.same (grownBy_drewN w2 nq)
                have hV3 := Blk.drewN hV2 nq
                obtain ⟨w3, hw3⟩ : ∃ w3, w2.drewN nq = w3 := ⟨_, rfl⟩
                rw [hw3] at hR3 hV3 ⊢
                clear hw3 hR2 hV2
                clear c1 c2 d1 d2
                obtain ⟨c1, c2⟩ := hE.srcB.at_ hR3.grown (k := j) (by omega)
                have v0 := hV3.cellIs (j := 0) rfl
                have v1 := hV3.cellIs (j := 1) rfl
                have f0 := hV3.frozen 0
                have f1 := hV3.frozen 1
                go_region_held3 (fun w' => w'.cell? ⟨bB, oB + j * 2, none⟩ = some (.int .i64 (B.ix j)) ∧ w'.cell? ⟨bB, oB + j * 2 + 1, none⟩ = some (.int .u64 (B.bt j))) (go_keep) (fail)
                go_wp2
                all_goals go_meet
                all_goals exact ⟨i, j + 1, _, _, B.ix j, B.bt j, slice_eq (by omega), slice_eq (by omega), umid_mk hR3 hV3 hfr hwV (by omega) (by omega) (by omega) (fun h => by first | exact absurd h (by omega) | exact adr_eq (by omega) | exact hR3.ha (by omega)) (fun h => by first | exact absurd h (by omega) | exact adr_eq (by omega) | exact hR3.hb (by omega)) hxw HNX.out.1 HNX.out.2⟩
              · have hgt' : decide (B.ix j < A.ix i) = false := by simp; omega
                have heq : A.ix i = B.ix j := by omega
                have hnx := hR1.inv.nextC hsA hsB (by omega) (by omega) heq
                have HNX : Hid _ := hnx
                have hxw := hE.iA i (by omega)
                clear hnx heq
                go_wp2
                go_quiet (fail)
                go_wp2
                have hR2 := hR1.same (grownBy_drewN w1 nq)
                have hV2 := Blk.drewN hV1 nq
                obtain ⟨w2, hw2⟩ : ∃ w2, w1.drewN nq = w2 := ⟨_, rfl⟩
                rw [hw2] at hR2 hV2 ⊢
                clear hw2 hR1 hV1
                clear c1 c2 d1 d2
                obtain ⟨c1, c2⟩ := hE.srcA.at_ hR2.grown (k := i) (by omega)
                obtain ⟨d1, d2⟩ := hE.srcB.at_ hR2.grown (k := j) (by omega)
                go_quiet (fail)
                go_wp2
                have hR3 := hR2.same (grownBy_drewN w2 nq)
                have hV3 := Blk.drewN hV2 nq
                obtain ⟨w3, hw3⟩ : ∃ w3, w2.drewN nq = w3 := ⟨_, rfl⟩
                rw [hw3] at hR3 hV3 ⊢
                clear hw3 hR2 hV2
                clear c1 c2 d1 d2
                obtain ⟨c1, c2⟩ := hE.srcA.at_ hR3.grown (k := i) (by omega)
                obtain ⟨d1, d2⟩ := hE.srcB.at_ hR3.grown (k := j) (by omega)
                have v0 := hV3.cellIs (j := 0) rfl
                have v1 := hV3.cellIs (j := 1) rfl
                have f0 := hV3.frozen 0
                have f1 := hV3.frozen 1
                go_region_held3 (fun w' => w'.cell? ⟨bA, oA + i * 2, none⟩ = some (.int .i64 (A.ix i)) ∧ w'.cell? ⟨bA, oA + i * 2 + 1, none⟩ = some (.int .u64 (A.bt i)) ∧ w'.cell? ⟨bB, oB + j * 2 + 1, none⟩ = some (.int .u64 (B.bt j))) (go_keep) (fail)
                go_wp2
                go_quiet (fail)
                go_wp2
                all_goals go_meet
                all_goals exact ⟨i + 1, j + 1, _, _, A.ix i, orB (A.bt i) (B.bt j), slice_eq (by omega), slice_eq (by omega), (umid_mk hR3 hV3 hfr hwV (by omega) (by omega) (by omega) (fun h => by first | exact absurd h (by omega) | exact adr_eq (by omega)) (fun h => by first | exact absurd h (by omega) | exact adr_eq (by omega)) hxw HNX.out.1 HNX.out.2).same ⟨rfl, rfl, rfl, Nat.le_refl _, fun _ _ _ => rfl⟩⟩
        case rest =>
          clear hR1 hV1
          obtain ⟨i2, j2, aa2, bb2, x, v, rfl, rfl, hM⟩ := hcut
          go_upto_region 9 with fail
          obtain ⟨v', hv'⟩ : ∃ v', bits .and .u64 v (live first n f x) = v' := ⟨_, rfl⟩
          go_cut [] from 10 to 95 (fun wx => ULate w g0 base A B D (live first n f) bA oA bB oB i j i2 j2 O dd aa2 bb2 dc gV x v' wx)
          case first =>
            have v0 := hM.box.cellIs (j := 0) rfl
            have v1 := hM.box.cellIs (j := 1) rfl
            have f1 := hM.box.frozen 1
            have hbx : LiveBox wc gL first ad n cap next := hE.box.kept hM.grown hE.boxNe
            have hbi : Ints wc ad .u64 n f := hE.ints.far hM.grown hE.intsNe
            have HBX : Hid (LiveBox wc gL first ad n cap next) := hbx
            have HBI : Hid (Ints wc ad .u64 n f) := hbi
            clear hbx hbi
            go_region_with (go_at_call 32; refine (word_any gL first ad n cap next f x wc.drew hE.hn hE.hf hM.xwf hE.hfn (show LiveBox wc.drew gL first ad n cap next from HBX.out) (show Ints wc.drew ad .u64 n f from HBI.out)).mono ?_; rintro e wz ⟨rfl, m, rfl⟩)
            all_goals (go_wp2_with fail)
            all_goals go_meet
            all_goals exact hM.late (grownBy_drewN _ _) v' hv'.symm
          case rest =>
            have hL := hcut
            clear hcut hv' hM
            have v0 := hL.box.cellIs (j := 0) rfl
            have v1 := hL.box.cellIs (j := 1) rfl
            by_cases hv0 : v' = 0
            · have hvb : (v' != 0) = false := by simp [hv0]
              have HL : Hid (v' = 0) := hv0
              clear hv0
              go_wp2
              go_roundw
              case rel => exact ⟨i2, j2, O, dd, aa2, bb2, dc, rfl, rfl, rfl, hL.zero HL.out⟩
              case measure => have := hL.lower; simp [lenOf]; omega
            · have hvb : (v' != 0) = true := by simp [hv0]
              have hon := hL.on
              have hgs := hL.grown.size
              obtain ⟨i82, hi82, hz0, hz1, hz2⟩ := info_parts info82
              go_wp2_with (at_builtin; refine wpList_append_lies _ rfl (.tmp 92) (.tmp 94) 78 rfl base 82 i82 _ 2 16 Try.underlying78 hi82 hz0 hz1 hz2 rfl (by omega) (.slice dd O.n dc) O.n _ rfl (World.ownsRow.alloc hL.own _) ⟨wc.heap.size, 0, none⟩ 1 1 [.int .i64 x, .int .u64 v'] rfl rfl (World.news_of_block (Blk.new wc 82 #[.int .i64 x, .int .u64 v'])) (by intro u hu; simp at hu; rcases hu with rfl | rfl <;> rfl) (by omega) (by unfold maxLen; omega) (by omega) (by simp; omega) (wc.heap.size + 1) (by simp) ?_; intro g cap' w6 ho hg hat hlt6)
              have hfin := hL.done hv0 ho hg hat (by omega)
              go_roundw
              case rel => exact ⟨i2, j2, snoc O x v', _, aa2, bb2, cap', rfl, rfl, rfl, hfin⟩
              case measure => have := hL.lower; simp [lenOf]; omega
end Go.Proofs.Qxb6603687a
