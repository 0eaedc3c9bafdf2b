/-
  sortedWords (17), findBits (22), liveWord (23), word (32): the functions that only read sets of words.
-/
import Derived.Test.Qxb6603687aWd
import Derived.OpenShut
namespace Go.Proofs.Qxb6603687a
open Go.RowKit Go.Maps
set_option linter.unusedVariables false

/-! ### plain -/
def Sorted (S : Wd) : Prop := ∀ i, i + 1 < S.n → S.ix i < S.ix (i + 1)
theorem Sorted.lt {S : Wd} (h : Sorted S) {i : Nat} : ∀ {j : Nat}, i < j → j < S.n → S.ix i < S.ix j := by
  intro j
  induction j with
  | zero => intro h1; omega
  | succ j ih =>
    intro h1 h2
    have h3 := h j h2
    by_cases e : i = j
    · subst e; exact h3
    · have := ih (by omega) (by omega)
      omega
theorem Sorted.inj {S : Wd} (h : Sorted S) {i j : Nat} (hi : i < S.n) (hj : j < S.n) (e : S.ix i = S.ix j) : i = j := by
  apply Classical.byContradiction
  intro hne
  rcases Nat.lt_or_gt_of_ne hne with hl | hl
  · have := h.lt hl hj; omega
  · have := h.lt hl hi; omega
/-- Where index x stands among the first k words. -/
def fnd (S : Wd) (x : Int) : Nat → Option Nat
  | 0 => none
  | k + 1 => if S.ix k = x then some k else fnd S x k
theorem fnd_none {S : Wd} {x : Int} : ∀ {k : Nat}, (∀ i, i < k → S.ix i ≠ x) → fnd S x k = none
  | 0, _ => rfl
  | k + 1, h => by
    unfold fnd
    rw [if_neg (h k (by omega))]
    exact fnd_none fun i hi => h i (by omega)
theorem fnd_some {S : Wd} {x : Int} {m : Nat} : ∀ {k : Nat}, m < k → S.ix m = x → (∀ i, i < k → S.ix i = x → i = m) → fnd S x k = some m
  | 0, h, _, _ => by omega
  | k + 1, h, e, hu => by
    unfold fnd
    by_cases hk : S.ix k = x
    · rw [if_pos hk, hu k (by omega) hk]
    · rw [if_neg hk]
      have : m ≠ k := fun e' => hk (e' ▸ e)
      exact fnd_some (by omega) e (fun i hi => hu i (by omega))
def bitsOf (S : Wd) (x : Int) : Int := match fnd S x S.n with | some m => S.bt m | none => 0
def inOf (S : Wd) (x : Int) : Bool := (fnd S x S.n).isSome
theorem bitsOf_no {S : Wd} {x : Int} (h : ∀ i, i < S.n → S.ix i ≠ x) : bitsOf S x = 0 := by unfold bitsOf; rw [fnd_none h]
theorem inOf_no {S : Wd} {x : Int} (h : ∀ i, i < S.n → S.ix i ≠ x) : inOf S x = false := by unfold inOf; rw [fnd_none h]; rfl
theorem bitsOf_yes {S : Wd} (hs : Sorted S) {x : Int} {m : Nat} (hm : m < S.n) (e : S.ix m = x) : bitsOf S x = S.bt m := by
  unfold bitsOf
  rw [fnd_some hm e (fun i hi h => hs.inj hi hm (h.trans e.symm))]
theorem inOf_yes {S : Wd} (hs : Sorted S) {x : Int} {m : Nat} (hm : m < S.n) (e : S.ix m = x) : inOf S x = true := by
  unfold inOf
  rw [fnd_some hm e (fun i hi h => hs.inj hi hm (h.trans e.symm))]
  rfl
/-- Word x of a bitset whose words begin at 'first'. -/
def live (first : Int) (n : Nat) (f : Nat → Int) (x : Int) : Int := if x < first ∨ first + n ≤ x then 0 else f (x - first).toNat

/-! ### sortedWords -/
def SaysSorted (S : Wd) (w : World) (e : Ending) (w' : World) : Prop := ∃ q : Bool, e = .returned (.bool q) ∧ (q = true → Sorted S) ∧ ∃ m, w' = w.drewN m
set_option maxHeartbeats 400000 in
theorem sorted_any (ad : Option Addr) (cap : Nat) (S : Wd) (w : World) (hn : S.n ≤ 65536) (hin : Words w ad S) :
    Calls Try.prog 17 #[.slice ad S.n cap] w fun e w' => SaysSorted S w e w' := by
  go_enter Try.func17, Try.ntmps17
  go_wp2
  go_loopw [3] (fun i wr => ∃ k : Nat, k ≤ S.n + 1 ∧ 0 < k ∧ i = .int .i64 k ∧ (∀ i, i + 1 < k → i + 1 < S.n → S.ix i < S.ix (i + 1)) ∧ ∃ m, wr = w.drewN m) (fun i _ => S.n + 1 - (intOf i).toNat)
  case atStart => exact ⟨1, by omega, by omega, rfl, fun i h _ => by omega, 0, rfl⟩
  case round =>
    obtain ⟨k, hk, hk0, rfl, hso, m, rfl⟩ := hrel
    have HS : Hid (∀ i, i + 1 < k → i + 1 < S.n → S.ix i < S.ix (i + 1)) := hso
    clear hso
    by_cases hlt : k < S.n
    · obtain ⟨k', rfl⟩ : ∃ k', k = k' + 1 := ⟨k - 1, by omega⟩
      obtain ⟨b, off, hae, hlb, c1, c2⟩ := hin.at_ (k := k') (by omega)
      obtain ⟨b2, off2, hae2, hlb2, d1, d2⟩ := hin.at_ hlt
      have he : (some ⟨b, off, none⟩ : Option Addr) = some ⟨b2, off2, none⟩ := hae ▸ hae2
      cases he
      cases hae
      clear hae2
      have i0 : (0 : Int) ≤ (k' : Int) := by omega
      have i1 : IntKind.i64.wrap (k' : Int) = (k' : Int) := by rw [IntKind.wrap_i64]; omega
      have i2 : (k' : Int) < (S.n : Int) := by omega
      have i3 : (k' : Int) + 1 < (S.n : Int) := by omega
      have i4 : (0 : Int) ≤ (k' : Int) + 1 := by omega
      by_cases hc : S.ix k' < S.ix (k' + 1)
      · have hc' : decide (S.ix (k' + 1) ≤ S.ix k') = false := by simp; omega
        go_wp2
        go_quiet (fail)
        go_wp2
        go_roundw
        case rel => exact ⟨k' + 1 + 1, by omega, by omega, by go_num, fun i h1 h2 => by by_cases e : i = k'; (subst e; exact hc); exact HS.out i (by omega) h2, _, rfl⟩
        case measure => simp [intOf]; omega
      · have hc' : S.ix (k' + 1) ≤ S.ix k' := by omega
        go_wp2
        go_quiet (fail)
        go_wp2
        go_ret
        exact ⟨false, rfl, fun h => by simp at h, _, World.drewN_drewN _ _ _⟩
    · go_wp2
      go_ret
      exact ⟨true, rfl, fun _ i hi => HS.out i (by omega) hi, m, rfl⟩

/-! ### findBits -/
set_option maxHeartbeats 400000 in
theorem findBits_any (ad : Option Addr) (cap : Nat) (S : Wd) (x : Int) (w : World) (hn : S.n ≤ 65536) (hs : Sorted S) (hin : Words w ad S) :
    Calls Try.prog 22 #[.slice ad S.n cap, .int .i64 x] w fun e w' => e = .returned (.tuple #[.int .u64 (bitsOf S x), .bool (inOf S x)]) ∧ w = w' := by
  go_enter Try.func22, Try.ntmps22
  go_wp2
  go_loop [6, 7] (fun l h => ∃ lo hi : Nat, lo ≤ hi ∧ hi ≤ S.n ∧ l = .int .i64 lo ∧ h = .int .i64 hi ∧ (∀ i, i < lo → S.ix i < x) ∧ (∀ i, hi ≤ i → i < S.n → x ≤ S.ix i)) (fun l h => (intOf h).toNat - (intOf l).toNat)
  case atStart => exact ⟨0, S.n, Nat.zero_le _, Nat.le_refl _, rfl, rfl, fun i h => by omega, fun i h1 h2 => by omega⟩
  case round =>
    obtain ⟨lo, hi, hlo, hhi, rfl, rfl, h1, h2⟩ := hrel
    have H1 : Hid (∀ i, i < lo → S.ix i < x) := h1
    have H2 : Hid (∀ i, hi ≤ i → i < S.n → x ≤ S.ix i) := h2
    clear h1 h2
    by_cases hlt : lo < hi
    · obtain ⟨m, hm0, hm1, hm2⟩ : ∃ m : Nat, lo ≤ m ∧ m < hi ∧ ((hi : Int) - (lo : Int)).tdiv 2 = (m : Int) - (lo : Int) := ⟨lo + (hi - lo) / 2, by omega, by omega, by rw [Int.tdiv_eq_ediv_of_nonneg (by omega)]; omega⟩
      obtain ⟨b, off, hae, hlb, c1, c2⟩ := hin.at_ (k := m) (by omega)
      cases hae
      by_cases hc : S.ix m < x
      · go_wp2
        go_round
        case rel => exact ⟨m + 1, hi, by omega, by omega, by go_num, rfl, fun i hi => by by_cases e : i = m; (subst e; exact hc); have := hs.lt (i := i) (j := m) (by omega) (by omega); omega, H2.out⟩
        case measure => simp [intOf]; omega
      · go_wp2
        go_round
        case rel => exact ⟨lo, m, by omega, by omega, rfl, by go_num, H1.out, fun i h1 h2 => by by_cases e : i = m; (subst e; omega); have := hs.lt (i := m) (j := i) (by omega) (by omega); omega⟩
        case measure => simp [intOf]; omega
    · have : lo = hi := by omega
      subst this
      by_cases hl : lo < S.n
      · obtain ⟨b, off, hae, hlb, c1, c2⟩ := hin.at_ hl
        cases hae
        by_cases hc : S.ix lo = x
        · have hb := bitsOf_yes hs hl hc
          have hi := inOf_yes hs hl hc
          go_wp2
          exact bodyPost_ret (v := .tuple #[.int .u64 (S.bt lo), .bool true]) (by simp [results, Try.results22, go_sem]) rfl ⟨by first | rfl | (rw [hb, hi]), rfl⟩
        · have hno : ∀ i, i < S.n → S.ix i ≠ x := fun i hi e => by
            by_cases h1 : i < lo
            · have := H1.out i h1; omega
            · by_cases h2 : i = lo
              · exact hc (h2 ▸ e)
              · have := hs.lt (i := lo) (j := i) (by omega) hi
                have := H2.out lo (Nat.le_refl _) hl
                omega
          have hb := bitsOf_no hno
          have hi := inOf_no hno
          clear hno
          have hc' : (S.ix lo == x) = false := by simp [hc]
          go_wp2
          exact bodyPost_ret (v := .tuple #[.int .u64 0, .bool false]) (by simp [results, Try.results22, go_sem]) rfl ⟨by first | rfl | (rw [hb, hi]), rfl⟩
      · have hno : ∀ i, i < S.n → S.ix i ≠ x := fun i hi e => by have := H1.out i (by omega); omega
        have hb := bitsOf_no hno
        have hi := inOf_no hno
        clear hno
        go_wp2
        exact bodyPost_ret (v := .tuple #[.int .u64 0, .bool false]) (by simp [results, Try.results22, go_sem]) rfl ⟨by first | rfl | (rw [hb, hi]), rfl⟩

/-! ### liveWord -/
set_option maxHeartbeats 400000 in
theorem liveWord_any (first : Int) (ad : Option Addr) (n cap : Nat) (f : Nat → Int) (x : Int) (w : World) (hn : n ≤ 65536) (hf : (Lit.int .i64 first).wf = true) (hx : (Lit.int .i64 x).wf = true) (hfn : first + (n : Int) ≤ 9223372036854775807) (hin : Ints w ad .u64 n f) :
    Calls Try.prog 23 #[.int .i64 first, .slice ad n cap, .int .i64 x] w fun e w' => e = .returned (.int .u64 (live first n f x)) ∧ w = w' := by
  have b1 := bounds_i64 hf
  have b2 := bounds_i64 hx
  clear hf hx
  by_cases h1 : x < first
  · have hl : live first n f x = 0 := if_pos (.inl h1)
    go_enter Try.func23, Try.ntmps23
    go_wp2
    go_ret
    exact ⟨by first | rfl | (rw [hl]; done) | (rw [hl]; rfl), rfl⟩
  · by_cases h2 : first + (n : Int) ≤ x
    · have hl : live first n f x = 0 := if_pos (.inr h2)
      have hw : IntKind.i64.wrap (first + (n : Int)) = first + (n : Int) := by rw [IntKind.wrap_i64]; omega
      go_enter Try.func23, Try.ntmps23
      go_wp2
      go_ret
      exact ⟨by first | rfl | (rw [hl]; done) | (rw [hl]; rfl), rfl⟩
    · have hw : IntKind.i64.wrap (first + (n : Int)) = first + (n : Int) := by rw [IntKind.wrap_i64]; omega
      obtain ⟨k, hk⟩ : ∃ k : Nat, x = first + (k : Int) := ⟨(x - first).toNat, by omega⟩
      subst hk
      have hkn : k < n := by omega
      have hw2 : IntKind.i64.wrap (k : Int) = (k : Int) := by rw [IntKind.wrap_i64]; omega
      have hl : live first n f (first + (k : Int)) = f k := by
        unfold live
        rw [if_neg (by omega), show (first + (k : Int) - first).toNat = k by omega]
      obtain ⟨b, off, hae, hlb, c1⟩ := hin.at_ hkn
      cases hae
      have c1' : w.cell? ⟨b, off + (first + (k : Int) - first).toNat, none⟩ = some (.int .u64 (f k)) := by rw [show (first + (k : Int) - first).toNat = k by omega]; exact c1
      go_enter Try.func23, Try.ntmps23
      go_wp2
      go_ret
      exact ⟨by first | rfl | (rw [hl]; done) | (rw [hl]; rfl), rfl⟩

/-! ### word: liveWord's twin, over a pointer -/
def LiveBox (w : World) (g : Nat) (first : Int) (ad : Option Addr) (n cap : Nat) (next : Int) : Prop := Blk w g 76 #[.int .i64 first, .slice ad n cap, .int .i64 next]
set_option maxHeartbeats 400000 in
theorem word_any (g : Nat) (first : Int) (ad : Option Addr) (n cap : Nat) (next : Int) (f : Nat → Int) (x : Int) (w : World) (hn : n ≤ 65536) (hf : (Lit.int .i64 first).wf = true) (hx : (Lit.int .i64 x).wf = true) (hfn : first + (n : Int) ≤ 9223372036854775807) (hg : LiveBox w g first ad n cap next) (hin : Ints w ad .u64 n f) :
    Calls Try.prog 32 #[.pointer (some ⟨g, 0, none⟩), .int .i64 x] w fun e w' => e = .returned (.int .u64 (live first n f x)) ∧ ∃ m, w' = w.drewN m := by
  have b1 := bounds_i64 hf
  have b2 := bounds_i64 hx
  have z0 := hg.cellIs (j := 0) rfl
  have z1 := hg.cellIs (j := 1) rfl
  clear hf hx
  by_cases h1 : x < first
  · have hl : live first n f x = 0 := if_pos (.inl h1)
    go_enter Try.func32, Try.ntmps32
    go_wp2
    go_quiet (fail)
    go_wp2
    go_ret
    exact ⟨by first | rfl | (rw [hl]; done) | (rw [hl]; rfl), _, rfl⟩
  · have h1' : decide (x < first) = false := by simp; omega
    by_cases h2 : first + (n : Int) ≤ x
    · have hl : live first n f x = 0 := if_pos (.inr h2)
      have hw : IntKind.i64.wrap (first + (n : Int)) = first + (n : Int) := by rw [IntKind.wrap_i64]; omega
      go_enter Try.func32, Try.ntmps32
      go_wp2
      go_quiet (fail)
      go_wp2
      go_ret
      exact ⟨by first | rfl | (rw [hl]; done) | (rw [hl]; rfl), _, rfl⟩
    · have h2' : decide (first + (n : Int) ≤ x) = false := by simp; omega
      have hw : IntKind.i64.wrap (first + (n : Int)) = first + (n : Int) := by rw [IntKind.wrap_i64]; omega
      obtain ⟨k, hk⟩ : ∃ k : Nat, (x - first).toNat = k := ⟨_, rfl⟩
      have hkn : k < n := by omega
      have hl : live first n f x = f k := by
        unfold live
        rw [if_neg (by omega), hk]
      obtain ⟨b, off, hae, hlb, c1⟩ := hin.at_ hkn
      cases hae
      have c1' : w.cell? ⟨b, off + (x - first).toNat, none⟩ = some (.int .u64 (f k)) := by rw [hk]; exact c1
      have hw2 : IntKind.i64.wrap (x - first) = x - first := by rw [IntKind.wrap_i64]; omega
      have i0 : 0 ≤ x - first := by omega
      have i1 : x - first < (n : Int) := by omega
      have i2 : first ≤ x := by omega
      clear hk
      go_enter Try.func32, Try.ntmps32
      go_wp2
      go_quiet (fail)
      go_wp2
      go_quiet (fail)
      go_wp2
      go_ret
      exact ⟨by first | rfl | (rw [hl]; done) | (rw [hl]; rfl), _, by first | rfl | exact World.drewN_drewN _ _ _⟩
end Go.Proofs.Qxb6603687a
