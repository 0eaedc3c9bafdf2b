/-
  ZZUnion (21).
-/
import Derived.Test.Qxb6603687aUnion
namespace Go.Proofs.Qxb6603687a
open Go.RowKit Go.Maps
set_option linter.unusedVariables false

theorem below_grow {w w' : World} (h : Below w.heap.size w w') : w.grownBy w' none := ⟨h.os, h.tape, h.output, h.size, fun k hk _ => h.block k hk⟩
theorem own_later {w w' : World} {base : Nat} {e : TypeId} {size : Nat} {v : Value} {n : Nat} {xs : List Value} (h : w.ownsRow base e size v n xs) (hb : Below w.heap.size w w') : w'.ownsRow base e size v n xs := by
  refine h.kept (below_grow hb) ?_
  cases he : v.ownBlock with
  | none => exact .inl rfl
  | some g => exact .inr (by simp)
theorem own_words {w : World} {base : Nat} {ad : Option Addr} {S : Wd} {cap : Nat} (h : w.ownsRow base 82 2 (.slice ad S.n cap) S.n (flatW S S.n)) : Words w ad S := by
  by_cases h0 : S.n = 0
  · exact .inl h0
  · obtain ⟨g, cap', he, _, _⟩ := World.ownsRow.form h (by omega)
    cases he
    refine .inr ⟨g, 0, rfl, fun k hk => ?_⟩
    rw [World.ownsRow.cellAt h (0 + k * 2) (by omega), World.ownsRow.cellAt h (0 + k * 2 + 1) (by omega)]
    simp only [Nat.zero_add]
    exact flatW_at S hk
/-- A set that zzSet made, as union's source. -/
theorem own_src {w wr : World} {base : Nat} {ad : Option Addr} {S : Wd} {g0 : Option Nat} (h : w.ownsRow base 82 2 (.slice ad S.n S.n) S.n (flatW S S.n)) (hb : Below w.heap.size w wr) (hg : ∀ g, g0 = some g → g < base) :
    ∃ b, Src wr g0 b 0 S ∧ (0 < S.n → ad = some ⟨b, 0 + 0 * 2, none⟩) := by
  by_cases h0 : S.n = 0
  · exact ⟨0, ⟨fun k hk => by omega, fun h => by omega⟩, fun h => by omega⟩
  · have hw := (own_words h).below hb
    obtain ⟨g, cap', he, hlow, _⟩ := World.ownsRow.form h (by omega)
    cases he
    refine ⟨g, ⟨fun k hk => ?_, fun _ e => by have := hg g e.symm; omega⟩, fun _ => rfl⟩
    obtain ⟨b, off, he2, _, c1, c2⟩ := hw.at_ hk
    cases he2
    exact ⟨c1, c2⟩

def ZzuP (A B D : Wd) (L : Int → Int) (w : World) (e : Ending) (w' : World) : Prop :=
  ∃ (O : Wd) (o1 o2 : Option Addr), e = .returned (.tuple #[.slice o1 O.n O.n, .slice o2 O.n O.n]) ∧ Below w.heap.size w w' ∧ Ints w' o1 .i64 O.n O.ix ∧ Ints w' o2 .u64 O.n O.bt ∧ UInv A B D L A.n B.n O

/-- What the law hands to ZZUnion. -/
structure ZArgs (first : Int) (n : Nat) (A B D : Wd) : Prop where
  hn : n ≤ 65536
  hf : (Lit.int .i64 first).wf = true
  hfn : first + (n : Int) ≤ 9223372036854775807
  sA : Sorted A
  sB : Sorted B
  iA : ∀ k, k < A.n → (Lit.int .i64 (A.ix k)).wf = true
  iB : ∀ k, k < B.n → (Lit.int .i64 (B.ix k)).wf = true
  wA : ∀ k, k < A.n → (Lit.int .u64 (A.bt k)).wf = true
  wB : ∀ k, k < B.n → (Lit.int .u64 (B.bt k)).wf = true
  nA : A.n ≤ 65536
  nB : B.n ≤ 65536
  nD : D.n ≤ 65536

/-- union, at what the three zzSets left. -/
def UnP (A B D : Wd) (L : Int → Int) (w : World) (e : Ending) (w' : World) : Prop :=
  ∃ (O : Wd) (dd : Option Addr) (dc : Nat), e = .returned (.slice dd O.n dc) ∧ Below w.heap.size w w' ∧ Words w' dd O ∧ UInv A B D L A.n B.n O
theorem union_ready {first next : Int} {ad : Option Addr} {n cap : Nat} {f : Nat → Int} {A B D : Wd} {w w1 w2 w3 w4 : World} {dd aa bb : Option Addr} (hZ : ZArgs first n A B D) (hW : Ints w ad .u64 n f) (hx1 : Below w.heap.size w w1) (hs1 : w1.heap.size = w.heap.size + 1) (hbox : LiveBox w1 w.heap.size first ad n cap next)
    (hq1 : Below w1.heap.size w1 w2) (ho1 : w2.ownsRow w1.heap.size 82 2 (.slice dd D.n D.n) D.n (flatW D D.n)) (hq2 : Below w2.heap.size w2 w3) (ho2 : w3.ownsRow w2.heap.size 82 2 (.slice aa A.n A.n) A.n (flatW A A.n)) (hq3 : Below w3.heap.size w3 w4) (ho3 : w4.ownsRow w3.heap.size 82 2 (.slice bb B.n B.n) B.n (flatW B B.n)) :
    Calls Try.prog 29 #[.pointer (some ⟨w.heap.size, 0, none⟩), .slice dd D.n D.n, .slice aa A.n A.n, .slice bb B.n B.n] w4 fun e w' => UnP A B D (live first n f) w e w' := by
  have s1 := hq1.size
  have s2 := hq2.size
  have s3 := hq3.size
  have q24 : Below w2.heap.size w2 w4 := hq2.trans (hq3.mono hq2.size)
  have q14 : Below w1.heap.size w1 w4 := hq1.trans (q24.mono hq1.size)
  have q04 : Below w.heap.size w w4 := hx1.trans (q14.mono hx1.size)
  have hg0 : ∀ g, Value.ownBlock (.slice dd D.n D.n) = some g → w1.heap.size ≤ g ∧ g < w2.heap.size := fun g h => ho1.lt g h
  obtain ⟨bA, srcA, hA⟩ := own_src (g0 := Value.ownBlock (.slice dd D.n D.n)) ho2 hq3 (fun g h => (hg0 g h).2)
  obtain ⟨bB, srcB, hB⟩ := own_src (g0 := Value.ownBlock (.slice dd D.n D.n)) ho3 (Below.refl _ _) (fun g h => by have := (hg0 g h).2; omega)
  have hown := own_later ho1 q24
  have hE : UEnv w4 (Value.ownBlock (.slice dd D.n D.n)) w.heap.size first ad n cap next f A B bA 0 bB 0 := by
    refine ⟨hbox.below q14 (by omega), fun e => ?_, hW.below q04, fun hn b off e h => ?_, srcA, srcB, hZ.hn, hZ.hf, hZ.hfn, hZ.sA, hZ.sB, hZ.iA, hZ.iB, hZ.wA, hZ.wB, hZ.nA, hZ.nB⟩
    · have := (hg0 _ e.symm).1
      omega
    · obtain ⟨b', off', he, hlt, _⟩ := hW.at_ hn
      rw [e] at he
      cases he
      have := (hg0 _ h.symm).1
      omega
  have hR : URel w4 (Value.ownBlock (.slice dd D.n D.n)) w1.heap.size A B D (live first n f) bA 0 bB 0 0 0 D dd aa bb D.n w4 := ⟨Nat.zero_le _, Nat.zero_le _, hA, hB, hown, .inl rfl, uinv_start A B D _, ⟨rfl, rfl, rfl, Nat.le_refl _, fun _ _ _ => rfl⟩⟩
  refine (union_any w4 _ w1.heap.size w.heap.size first ad n cap next f A B D bA 0 bB 0 aa bb dd D.n hE hZ.nD hR (by omega)).mono ?_
  rintro e w' ⟨O, dd', dc', he, ho, hu, hg⟩
  exact ⟨O, dd', dc', he, below_grown q04 hg (Nat.le_refl _) (fun k e => by have := (hg0 k e).1; omega), own_words ho, hu⟩

set_option maxRecDepth 100000 in
set_option maxHeartbeats 1000000 in
theorem zzu_any (first next : Int) (ad : Option Addr) (n cap : Nat) (f : Nat → Int) (A B D : Wd) (d1 d2 a1 a2 b1 b2 : Option Addr) (w : World) (hZ : ZArgs first n A B D) (hW : Ints w ad .u64 n f)
    (hd1 : Ints w d1 .i64 D.n D.ix) (hd2 : Ints w d2 .u64 D.n D.bt) (ha1 : Ints w a1 .i64 A.n A.ix) (ha2 : Ints w a2 .u64 A.n A.bt) (hb1 : Ints w b1 .i64 B.n B.ix) (hb2 : Ints w b2 .u64 B.n B.bt) :
    Calls Try.prog 21 #[.int .i64 first, .slice ad n cap, .int .i64 next, .slice d1 D.n D.n, .slice d2 D.n D.n, .slice a1 A.n A.n, .slice a2 A.n A.n, .slice b1 B.n B.n, .slice b2 B.n B.n] w fun e w' => ZzuP A B D (live first n f) w e w' := by
  have hnA := hZ.nA
  have hnB := hZ.nB
  have hnD := hZ.nD
  have hx1 : Below w.heap.size w (w.alloc (.cells #[.int .i64 first, .slice ad n cap, .int .i64 next] 76)) := (Below.refl _ _).alloc (Nat.le_refl _) _
  have hbox : LiveBox (w.alloc (.cells #[.int .i64 first, .slice ad n cap, .int .i64 next] 76)) w.heap.size first ad n cap next := Blk.new _ _ _
  have hmk1 : ∀ (O : Wd), O.n ≤ 1048576 → ∀ w, _ := fun O h w => run_mkI O.n h w
  have hmk2 : ∀ (O : Wd), O.n ≤ 1048576 → ∀ w, _ := fun O h w => run_mkU O.n h w
  have HM : Hid (∀ (O : Wd), O.n ≤ 1048576 → ∀ w, _) := hmk1
  have HM2 : Hid (∀ (O : Wd), O.n ≤ 1048576 → ∀ w, _) := hmk2
  clear hmk1 hmk2
  go_enter Try.func21, Try.ntmps21
  go_wp2_with (first
    | (go_at_call 30; have hx := hq2; clear hx; refine (zzSet_any b1 b2 B w3 hnB ((hb1.below hx1).below (hq1.trans (hq2.mono hq1.size))) ((hb2.below hx1).below (hq1.trans (hq2.mono hq1.size)))).mono ?_; rintro e w4 ⟨bb, rfl, hq3, ho3⟩)
    | (go_at_call 30; have hx := hq1; clear hx; refine (zzSet_any a1 a2 A w2 hnA ((ha1.below hx1).below hq1) ((ha2.below hx1).below hq1)).mono ?_; rintro e w3 ⟨aa, rfl, hq2, ho2⟩)
    | (go_at_call 30; refine (zzSet_any d1 d2 D _ hnD (hd1.below hx1) (hd2.below hx1)).mono ?_; rintro e w2 ⟨dd, rfl, hq1, ho1⟩)
    | (go_at_call 29; refine (union_ready hZ hW hx1 (by simp) hbox hq1 ho1 hq2 ho2 hq3 ho3).mono ?_; rintro e w5 ⟨O, od, oc, rfl, hB5, hw5, hu⟩; have hon := uon' hu; have hOn : O.n ≤ 1048576 := (by omega); have hmA := HM.out O hOn; have hmB := HM2.out O hOn; clear hx1 hbox hq1 ho1 hq2 ho2 hq3 ho3))
  obtain ⟨N, w6, hN, hw6, hb6, hr1, hr2⟩ : ∃ N w6, w5.heap.size = N ∧ (w5.alloc (.cells (zeros .i64 O.n) 3)).alloc (.cells (zeros .u64 O.n) 51) = w6 ∧ Below w5.heap.size w5 w6 ∧ RowFn w6 N 3 .i64 O.n (upTo O.ix 0) ∧ RowFn w6 (N + 1) 51 .u64 O.n (upTo O.bt 0) := ⟨_, _, rfl, rfl, ((Below.refl _ _).alloc (Nat.le_refl _) _).alloc (by simp) _, (rowFn_new0 _ _ _ _ _).alloc' _, by have := rowFn_new0 (w5.alloc (.cells (zeros .i64 O.n) 3)) 51 .u64 O.n O.bt; simpa using this⟩
  rw [hw6, hN]
  have hNl : w5.heap.size ≤ N := by omega
  have hNe : Hid (w5.heap.size = N) := hN
  clear hw6 hN hmA hmB
  go_loopw [24] (fun i wr => ∃ k : Nat, k ≤ O.n ∧ i = .int .i64 k ∧ Below w5.heap.size w5 wr ∧ RowFn wr N 3 .i64 O.n (upTo O.ix k) ∧ RowFn wr (N + 1) 51 .u64 O.n (upTo O.bt k)) (fun i _ => O.n - (intOf i).toNat)
  case atStart => exact ⟨0, Nat.zero_le _, rfl, hb6, hr1, hr2⟩
  case round =>
    clear hb6 hr1 hr2
    obtain ⟨k, hk, rfl, hB, h1, h2⟩ := hrel
    by_cases hlt : k < O.n
    · obtain ⟨b, off, hae, hlb, c1, c2⟩ := hw5.at_ hlt
      have c1' := (hB.cell (p := ⟨b, off + k * 2, none⟩) hlb).trans c1
      have c2' := (hB.cell (p := ⟨b, off + k * 2 + 1, none⟩) hlb).trans c2
      have hne : b ≠ N := by have := hNe.out; omega
      have hne' : N ≠ b := hne.symm
      cases hae
      have p1 := h1.cell hlt
      have f1 := h1.frozen k
      have p2 := h2.cell hlt
      have f2 := h2.frozen k
      clear c1 c2
      go_wp2
      go_roundw
      case rel => exact ⟨k + 1, by omega, by go_num, (hB.setCell hNl _).setCell (by simp only; omega) _, (h1.set hlt _ (fun i _ => upTo_next O.ix k i)).other' (by simp) _, (h2.other' (by simp) _).set hlt _ (fun i _ => upTo_next O.bt k i)⟩
      case measure => simp [intOf]; omega
    · go_wp2
      exact bodyPost_ret (v := .tuple #[.slice (some ⟨N, 0, none⟩) O.n O.n, .slice (some ⟨N + 1, 0, none⟩) O.n O.n]) (by simp [results, Try.results21, go_sem]) rfl ⟨O, _, _, rfl, hB5.trans (hB.mono hB5.size), (h1.congr (fun j hj => upTo_all O.ix (by omega) hj)).ints, (h2.congr (fun j hj => upTo_all O.bt (by omega) hj)).ints, hu⟩
end Go.Proofs.Qxb6603687a
