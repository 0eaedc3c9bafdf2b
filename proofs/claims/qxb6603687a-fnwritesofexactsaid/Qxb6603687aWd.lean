/-
  Sets of words in memory ([]Word, writeSet: two cells an element), rows of numbers at any address; the functions that only read them, or copy them: sortedWords (17), copyU64 (18), copyWords (19), split (20), findBits (22), liveWord (23).
-/
import Derived.Test.Qxb6603687aRowFn
import Derived.WalkKit
import Derived.WalkSpells
import Derived.Deep.QuietTactic
import Derived.BigQuiet
namespace Go.Proofs.Qxb6603687a
open Go.RowKit Go.Maps
set_option linter.unusedVariables false

/-! ### numbers at any address -/
def Ints (w : World) (ad : Option Addr) (kd : IntKind) (n : Nat) (f : Nat → Int) : Prop :=
  n = 0 ∨ ∃ b off, ad = some ⟨b, off, none⟩ ∧ ∀ k, k < n → w.cell? ⟨b, off + k, none⟩ = some (.int kd (f k))
theorem cell_lt {w : World} {a : Addr} {v : Value} (h : w.cell? a = some v) : a.block < w.heap.size := by
  apply Classical.byContradiction
  intro hge
  have : w.heap[a.block]? = none := by simp; omega
  simp [World.cell?, this] at h
section
variable {w w' : World} {ad : Option Addr} {kd : IntKind} {n : Nat} {f : Nat → Int}
theorem Ints.at_ (h : Ints w ad kd n f) {k : Nat} (hk : k < n) : ∃ b off, ad = some ⟨b, off, none⟩ ∧ b < w.heap.size ∧ w.cell? ⟨b, off + k, none⟩ = some (.int kd (f k)) := by
  rcases h with h | ⟨b, off, ha, h⟩
  · omega
  · exact ⟨b, off, ha, cell_lt (h k hk), h k hk⟩
theorem Ints.below (h : Ints w ad kd n f) (hb : Below w.heap.size w w') : Ints w' ad kd n f := by
  rcases h with h | ⟨b, off, ha, h⟩
  · exact .inl h
  · exact .inr ⟨b, off, ha, fun k hk => (hb.cell (cell_lt (h k hk))).trans (h k hk)⟩
theorem Ints.kept (h : Ints w ad kd n f) (hg : w.grownBy w' none) : Ints w' ad kd n f := by
  rcases h with h | ⟨b, off, ha, h⟩
  · exact .inl h
  · exact .inr ⟨b, off, ha, fun k hk => (hg.cell_far _ (cell_lt (h k hk)) (by simp)).trans (h k hk)⟩
theorem Ints.drewN (h : Ints w ad kd n f) (m : Nat) : Ints (w.drewN m) ad kd n f := h
theorem Ints.nil (h : Ints w none kd n f) : n = 0 := by
  rcases h with h | ⟨b, off, ha, h⟩
  · exact h
  · cases ha
theorem RowFn.ints {g : Nat} {e : TypeId} (h : RowFn w g e kd n f) : Ints w (some ⟨g, 0, none⟩) kd n f := .inr ⟨g, 0, rfl, fun k hk => by rw [Nat.zero_add]; exact h.cell hk⟩
theorem Ints.congr {f' : Nat → Int} (h : Ints w ad kd n f) (hf : ∀ j, j < n → f' j = f j) : Ints w ad kd n f' := by
  rcases h with h | ⟨b, off, ha, h⟩
  · exact .inl h
  · exact .inr ⟨b, off, ha, fun k hk => by rw [hf k hk]; exact h k hk⟩
end

/-! ### sets of words -/
structure Wd where
  n : Nat
  ix : Nat → Int
  bt : Nat → Int
def Words (w : World) (ad : Option Addr) (S : Wd) : Prop :=
  S.n = 0 ∨ ∃ b off, ad = some ⟨b, off, none⟩ ∧ ∀ k, k < S.n → w.cell? ⟨b, off + k * 2, none⟩ = some (.int .i64 (S.ix k)) ∧ w.cell? ⟨b, off + k * 2 + 1, none⟩ = some (.int .u64 (S.bt k))
section
variable {w w' : World} {ad : Option Addr} {S : Wd}
theorem Words.at_ (h : Words w ad S) {k : Nat} (hk : k < S.n) : ∃ b off, ad = some ⟨b, off, none⟩ ∧ b < w.heap.size ∧ w.cell? ⟨b, off + k * 2, none⟩ = some (.int .i64 (S.ix k)) ∧ w.cell? ⟨b, off + k * 2 + 1, none⟩ = some (.int .u64 (S.bt k)) := by
  rcases h with h | ⟨b, off, ha, h⟩
  · omega
  · exact ⟨b, off, ha, cell_lt (h k hk).1, h k hk⟩
theorem Words.below (h : Words w ad S) (hb : Below w.heap.size w w') : Words w' ad S := by
  rcases h with h | ⟨b, off, ha, h⟩
  · exact .inl h
  · exact .inr ⟨b, off, ha, fun k hk => ⟨(hb.cell (cell_lt (h k hk).1)).trans (h k hk).1, (hb.cell (cell_lt (h k hk).2)).trans (h k hk).2⟩⟩
theorem Words.drewN (h : Words w ad S) (m : Nat) : Words (w.drewN m) ad S := h
theorem Words.nil (h : Words w none S) : S.n = 0 := by
  rcases h with h | ⟨b, off, ha, h⟩
  · exact h
  · cases ha
end

/-- The first k words of S lie in C; C has room for all of S. -/
structure HoldsW (C : Array Value) (S : Wd) (k : Nat) : Prop where
  size : C.size = S.n * 2
  at_ : ∀ j, j < k → C[j * 2]? = some (.int .i64 (S.ix j)) ∧ C[j * 2 + 1]? = some (.int .u64 (S.bt j))
theorem HoldsW.room {C : Array Value} {S : Wd} {k : Nat} (h : HoldsW C S k) (hk : k < S.n) : ∃ o0 o1, C[k * 2]? = some o0 ∧ C[k * 2 + 1]? = some o1 := by
  have := h.size
  exact ⟨C[k * 2], C[k * 2 + 1], by simp, by simp⟩
theorem HoldsW.step {C : Array Value} {S : Wd} {k : Nat} (h : HoldsW C S k) (hk : k < S.n) :
    HoldsW ((C.setIfInBounds (k * 2) (.int .i64 (S.ix k))).setIfInBounds (k * 2 + 1) (.int .u64 (S.bt k))) S (k + 1) := by
  have hs := h.size
  refine ⟨by simp [hs], fun j hlt => ?_⟩
  by_cases e : j = k
  · subst e
    refine ⟨?_, ?_⟩ <;> simp [Array.getElem?_setIfInBounds] <;> omega
  · obtain ⟨a, b⟩ := h.at_ j (by omega)
    simp only [Array.getElem?_setIfInBounds]
    refine ⟨?_, ?_⟩ <;> (repeat rw [if_neg (by omega)]) <;> assumption
theorem HoldsW.full {C : Array Value} {S : Wd} {k : Nat} (h : HoldsW C S k) (hk : S.n ≤ k) : HoldsW C S S.n := ⟨h.size, fun j hj => h.at_ j (by omega)⟩
theorem HoldsW.words {C : Array Value} {S : Wd} {w : World} {g : Nat} {t : TypeId} (h : HoldsW C S S.n) (hg : Blk w g t C) : Words w (some ⟨g, 0, none⟩) S := by
  refine .inr ⟨g, 0, rfl, fun k hk => ?_⟩
  rw [hg.cell, hg.cell]
  simp only [Nat.zero_add]
  exact h.at_ k hk
def zeros2 (n : Nat) : Array Value := madeCells #[.int .i64 0, .int .u64 0] (n * 2)
theorem holdsW_start (S : Wd) : HoldsW (zeros2 S.n) S 0 := ⟨size_madeCells _ _, fun j h => by omega⟩
theorem info53 : (Try.prog.info? 53).map (fun i => (i.zero, i.size, i.bytes)) = some (some (.agg #[.int .i64 0, .int .u64 0]), 2, 16) := by kernel_rfl
theorem info82 : (Try.prog.info? 82).map (fun i => (i.zero, i.size, i.bytes)) = some (some (.agg #[.int .i64 0, .int .u64 0]), 2, 16) := by kernel_rfl
theorem info51 : (Try.prog.info? 51).map (fun i => (i.zero, i.size, i.bytes)) = some (some (.int .u64 0), 1, 8) := by kernel_rfl
theorem info3w : (Try.prog.info? 3).map (fun i => (i.zero, i.size, i.bytes)) = some (some (.int .i64 0), 1, 8) := by kernel_rfl
theorem run_mkI (n : Nat) (hn : n ≤ 1048576) (w : World) : (Instr.makeSlice 35 (.int .i64 (n : Int)) (.int .i64 (n : Int))).run Try.prog w = .ok (.slice (some ⟨w.heap.size, 0, none⟩) n n) (w.alloc (.cells (zeros .i64 n) 3)) := by
  have := run_mk (P := Try.prog) 35 3 _ 1 8 Try.underlying35 info3w n (by omega) (by omega) w
  rw [Nat.mul_one] at this
  exact this
theorem run_mkU (n : Nat) (hn : n ≤ 1048576) (w : World) : (Instr.makeSlice 42 (.int .i64 (n : Int)) (.int .i64 (n : Int))).run Try.prog w = .ok (.slice (some ⟨w.heap.size, 0, none⟩) n n) (w.alloc (.cells (zeros .u64 n) 51)) := by
  have := run_mk (P := Try.prog) 42 51 _ 1 8 Try.underlying42 info51 n (by omega) (by omega) w
  rw [Nat.mul_one] at this
  exact this

/-- f for the first k, naught behind. -/
def upTo (f : Nat → Int) (k j : Nat) : Int := if j < k then f j else 0
theorem upTo_next (f : Nat → Int) (k i : Nat) : upTo f (k + 1) i = if i = k then f k else upTo f k i := by
  unfold upTo
  by_cases e : i = k
  · subst e; rw [if_pos (by omega), if_pos rfl]
  · rw [if_neg e]
    by_cases h1 : i < k
    · rw [if_pos (by omega), if_pos h1]
    · rw [if_neg (by omega), if_neg h1]
theorem upTo_all (f : Nat → Int) {n k j : Nat} (hk : n ≤ k) (hj : j < n) : f j = upTo f k j := by unfold upTo; rw [if_pos (by omega)]
theorem rowFn_new0 (w : World) (e : TypeId) (kd : IntKind) (n : Nat) (f : Nat → Int) : RowFn (w.alloc (.cells (zeros kd n) e)) w.heap.size e kd n (upTo f 0) := (rowFn_zeros (Blk.new w e _)).congr (fun j _ => if_neg (by omega))
theorem RowFn.alloc' {w : World} {g : Nat} {e : TypeId} {kd : IntKind} {n : Nat} {f : Nat → Int} (h : RowFn w g e kd n f) (o : Obj) : RowFn (w.alloc o) g e kd n f := let ⟨C, h, r⟩ := h; ⟨C, h.alloc o, r⟩
theorem RowFn.other' {w : World} {g : Nat} {e : TypeId} {kd : IntKind} {n : Nat} {f : Nat → Int} (h : RowFn w g e kd n f) {a : Addr} (hne : g ≠ a.block) (v : Value) : RowFn (w.setCell a v) g e kd n f := let ⟨C, h, r⟩ := h; ⟨C, h.other hne v, r⟩

/-! ### copyU64 -/
/-- What a copy of numbers leaves. -/
def CopiedI (kd : IntKind) (n : Nat) (f : Nat → Int) (w : World) (e : Ending) (w' : World) : Prop := ∃ ad, e = .returned (.slice ad n n) ∧ Below w.heap.size w w' ∧ Ints w' ad kd n f
set_option maxHeartbeats 400000 in
theorem copyU64_any (ad : Option Addr) (n cap : Nat) (f : Nat → Int) (w : World) (hn : n ≤ 65536) (hin : Ints w ad .u64 n f) :
    Calls Try.prog 18 #[.slice ad n cap] w fun e w' => CopiedI .u64 n f w e w' := by
  have hnil := fun w => Lib.run_eql_slice_nil (P := Try.prog) w 42 51 ad n cap 0 0 Try.underlying42
  have hmk := run_mkU n (by omega) w
  cases ad with
  | none =>
    have h0 := hin.nil
    subst h0
    go_enter Try.func18, Try.ntmps18
    go_wp2
    go_ret
    exact ⟨none, rfl, Below.refl _ _, .inl rfl⟩
  | some a =>
    go_enter Try.func18, Try.ntmps18
    go_wp2
    clear hmk hnil
    obtain ⟨N, w1, hN, hw1, hb1, hr1⟩ : ∃ N w1, w.heap.size = N ∧ w.alloc (.cells (zeros .u64 n) 51) = w1 ∧ Below w.heap.size w w1 ∧ RowFn w1 N 51 .u64 n (upTo f 0) := ⟨_, _, rfl, rfl, (Below.refl _ _).alloc (Nat.le_refl _) _, rowFn_new0 _ _ _ _ _⟩
    rw [hw1, hN]
    have hNl : w.heap.size ≤ N := by omega
    clear hw1
    go_loopw [4] (fun i wr => ∃ k : Nat, k ≤ n ∧ i = .int .i64 k ∧ Below w.heap.size w wr ∧ RowFn wr N 51 .u64 n (upTo f k)) (fun i _ => n - (intOf i).toNat)
    case atStart => exact ⟨0, Nat.zero_le _, rfl, hb1, hr1⟩
    case round =>
      clear hb1 hr1
      obtain ⟨k, hk, rfl, hB, hr⟩ := hrel
      by_cases hlt : k < n
      · obtain ⟨b, off, hae, hlb, c1⟩ := (hin.below hB).at_ hlt
        cases hae
        have c2 := hr.cell hlt
        have f2 := hr.frozen k
        go_wp2
        go_roundw
        case rel => exact ⟨k + 1, by omega, by go_num, hB.setCell hNl _, hr.set hlt _ (fun i _ => upTo_next f k i)⟩
        case measure => simp [intOf]; omega
      · go_wp2
        go_ret
        exact ⟨_, rfl, hB, (hr.congr (fun j hj => upTo_all f (by omega) hj)).ints⟩

/-! ### copyWords -/
def CopiedW (S : Wd) (w : World) (e : Ending) (w' : World) : Prop := ∃ ad, e = .returned (.slice ad S.n S.n) ∧ Below w.heap.size w w' ∧ Words w' ad S
set_option maxHeartbeats 400000 in
theorem copyWords_any (ad : Option Addr) (cap : Nat) (S : Wd) (w : World) (hn : S.n ≤ 65536) (hin : Words w ad S) :
    Calls Try.prog 19 #[.slice ad S.n cap] w fun e w' => CopiedW S w e w' := by
  have hnil := fun w => Lib.run_eql_slice_nil (P := Try.prog) w 43 53 ad S.n cap 0 0 Try.underlying43
  have hmk : (Instr.makeSlice 43 (.int .i64 (S.n : Int)) (.int .i64 (S.n : Int))).run Try.prog w = .ok (.slice (some ⟨w.heap.size, 0, none⟩) S.n S.n) (w.alloc (.cells (zeros2 S.n) 53)) :=
    run_mk (P := Try.prog) 43 53 _ 2 16 Try.underlying43 info53 S.n (by omega) (by omega) w
  cases ad with
  | none =>
    have h0 := hin.nil
    rw [h0] at hnil hmk ⊢
    go_enter Try.func19, Try.ntmps19
    go_wp2
    go_ret
    exact ⟨none, by rw [h0]; rfl, Below.refl _ _, .inl h0⟩
  | some a =>
    go_enter Try.func19, Try.ntmps19
    go_wp2
    clear hmk hnil
    obtain ⟨N, w1, hN, hw1, hb1, hr1⟩ : ∃ N w1, w.heap.size = N ∧ w.alloc (.cells (zeros2 S.n) 53) = w1 ∧ Below w.heap.size w w1 ∧ Blk w1 N 53 (zeros2 S.n) := ⟨_, _, rfl, rfl, (Below.refl _ _).alloc (Nat.le_refl _) _, Blk.new _ _ _⟩
    rw [hw1, hN]
    have hNl : w.heap.size ≤ N := by omega
    clear hw1
    go_loopw [4] (fun i wr => ∃ k : Nat, k ≤ S.n ∧ i = .int .i64 k ∧ ∃ C, Below w.heap.size w wr ∧ Blk wr N 53 C ∧ HoldsW C S k) (fun i _ => S.n - (intOf i).toNat)
    case atStart => exact ⟨0, Nat.zero_le _, rfl, _, hb1, hr1, holdsW_start S⟩
    case round =>
      clear hb1 hr1
      obtain ⟨k, hk, rfl, C, hB, hb, hC⟩ := hrel
      by_cases hlt : k < S.n
      · obtain ⟨b, off, hae, hlb, c1, c2⟩ := (hin.below hB).at_ hlt
        cases hae
        obtain ⟨o0, o1, q0, q1⟩ := hC.room hlt
        have p0 := hb.cellIs q0
        have p1 := hb.cellIs q1
        have f0 := hb.frozen (k * 2)
        have f1 := hb.frozen (k * 2 + 1)
        clear q0 q1
        go_wp2
        go_roundw
        case rel => exact ⟨k + 1, by omega, by go_num, _, (hB.setCell hNl _).setCell hNl _, (hb.set _ _).set _ _, hC.step hlt⟩
        case measure => simp [intOf]; omega
      · go_wp2
        go_ret
        exact ⟨_, rfl, hB, (hC.full (by omega)).words hb⟩

/-! ### split -/
def SplitP (S : Wd) (w : World) (e : Ending) (w' : World) : Prop := ∃ a1 a2, e = .returned (.tuple #[.slice a1 S.n S.n, .slice a2 S.n S.n]) ∧ Below w.heap.size w w' ∧ Ints w' a1 .i64 S.n S.ix ∧ Ints w' a2 .u64 S.n S.bt
set_option maxHeartbeats 400000 in
theorem split_any (ad : Option Addr) (cap : Nat) (S : Wd) (w : World) (hn : S.n ≤ 65536) (hin : Words w ad S) :
    Calls Try.prog 20 #[.slice ad S.n cap] w fun e w' => SplitP S w e w' := by
  have hnil := fun w => Lib.run_eql_slice_nil (P := Try.prog) w 43 53 ad S.n cap 0 0 Try.underlying43
  have hmk1 := fun w => run_mkI S.n (by omega) w
  have hmk2 := fun w => run_mkU S.n (by omega) w
  cases ad with
  | none =>
    have h0 := hin.nil
    rw [h0] at hnil hmk1 hmk2 ⊢
    go_enter Try.func20, Try.ntmps20
    go_wp2
    exact bodyPost_ret (v := .tuple #[.slice none 0 0, .slice none 0 0]) (by simp [results, Try.results20, go_sem]) rfl ⟨none, none, by rw [h0], Below.refl _ _, .inl h0, .inl h0⟩
  | some a =>
    go_enter Try.func20, Try.ntmps20
    go_wp2
    clear hmk1 hmk2 hnil
    obtain ⟨N, w1, hN, hw1, hb1, hr1, hr2⟩ : ∃ N w1, w.heap.size = N ∧ (w.alloc (.cells (zeros .i64 S.n) 3)).alloc (.cells (zeros .u64 S.n) 51) = w1 ∧ Below w.heap.size w w1 ∧ RowFn w1 N 3 .i64 S.n (upTo S.ix 0) ∧ RowFn w1 (N + 1) 51 .u64 S.n (upTo S.bt 0) := ⟨_, _, rfl, rfl, ((Below.refl _ _).alloc (Nat.le_refl _) _).alloc (by simp) _, (rowFn_new0 _ _ _ _ _).alloc' _, by have := rowFn_new0 (w.alloc (.cells (zeros .i64 S.n) 3)) 51 .u64 S.n S.bt; simpa using this⟩
    rw [hw1, hN]
    have hNl : w.heap.size ≤ N := by omega
    clear hw1
    go_loopw [6] (fun i wr => ∃ k : Nat, k ≤ S.n ∧ i = .int .i64 k ∧ Below w.heap.size w wr ∧ RowFn wr N 3 .i64 S.n (upTo S.ix k) ∧ RowFn wr (N + 1) 51 .u64 S.n (upTo S.bt k)) (fun i _ => S.n - (intOf i).toNat)
    case atStart => exact ⟨0, Nat.zero_le _, rfl, hb1, hr1, hr2⟩
    case round =>
      clear hb1 hr1 hr2
      obtain ⟨k, hk, rfl, hB, h1, h2⟩ := hrel
      by_cases hlt : k < S.n
      · obtain ⟨b, off, hae, hlb, c1, c2⟩ := (hin.below hB).at_ hlt
        have hne : b ≠ N := by
          rcases hin with h | ⟨b', off', h3, h4⟩
          · omega
          · have h5 := cell_lt (h4 k hlt).1
            have : b = b' := by rw [h3] at hae; simp at hae; exact hae.1.symm
            simp at h5
            omega
        have hne' : N ≠ b := hne.symm
        cases hae
        have p1 := h1.cell hlt
        have f1 := h1.frozen k
        have p2 := h2.cell hlt
        have f2 := h2.frozen k
        go_wp2
        go_roundw
        case rel => exact ⟨k + 1, by omega, by go_num, (hB.setCell hNl _).setCell (by simp only; omega) _, (h1.set hlt _ (fun i _ => upTo_next S.ix k i)).other' (by simp) _, (h2.other' (by simp) _).set hlt _ (fun i _ => upTo_next S.bt k i)⟩
        case measure => simp [intOf]; omega
      · go_wp2
        exact bodyPost_ret (v := .tuple #[.slice (some ⟨N, 0, none⟩) S.n S.n, .slice (some ⟨N + 1, 0, none⟩) S.n S.n]) (by simp [results, Try.results20, go_sem]) rfl ⟨_, _, rfl, hB, (h1.congr (fun j hj => upTo_all S.ix (by omega) hj)).ints, (h2.congr (fun j hj => upTo_all S.bt (by omega) hj)).ints⟩
end Go.Proofs.Qxb6603687a
