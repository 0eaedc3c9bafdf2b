/-
  FnNewCausalOrderRelabel: what newCausalOrder answers hangs only on which sites, variables and values are the same.
-/
import Derived.Test.Qxb6603687aZzn
import Derived.OpenShut
namespace Go.Proofs.Qxb6603687a
open Go.RowKit Go.Maps
set_option linter.unusedVariables false

section
variable {s s' : Nat → Int} {n : Nat}
theorem cnt_same (h : ∀ i j, i < n → j < n → (s' i = s' j ↔ s i = s j)) {j : Nat} (hj : j < n) : ∀ k, k ≤ n → cnt s' (s' j) k = cnt s (s j) k
  | 0, _ => rfl
  | k + 1, hk => by
    have ih := cnt_same h hj k (by omega)
    have e := h k j (by omega) hj
    unfold cnt
    rw [ih]
    by_cases x : s k = s j
    · rw [if_pos x, if_pos (e.2 x)]
    · rw [if_neg x, if_neg (fun y => x (e.1 y))]
theorem lastB_same (h : ∀ i j, i < n → j < n → (s' i = s' j ↔ s i = s j)) {j : Nat} (hj : j < n) : ∀ k, k ≤ n → lastB s' (s' j) k = lastB s (s j) k
  | 0, _ => rfl
  | k + 1, hk => by
    have ih := lastB_same h hj k (by omega)
    have e := h k j (by omega) hj
    unfold lastB
    rw [ih]
    by_cases x : s k = s j
    · rw [if_pos x, if_pos (e.2 x)]
    · rw [if_neg x, if_neg (fun y => x (e.1 y))]
theorem fi_same (h : ∀ i j, i < n → j < n → (s' i = s' j ↔ s i = s j)) {j : Nat} (hj : j < n) : ∀ k, k ≤ n → fi s' (s' j) k = fi s (s j) k
  | 0, _ => rfl
  | k + 1, hk => by
    have ih := fi_same h hj k (by omega)
    have e := h k j (by omega) hj
    unfold fi
    rw [ih]
    by_cases x : s k = s j
    · rw [if_pos x, if_pos (e.2 x)]
    · rw [if_neg x, if_neg (fun y => x (e.1 y))]
theorem nb_same (h : ∀ i j, i < n → j < n → (s' i = s' j ↔ s i = s j)) : ∀ k, k ≤ n → nb s' k = nb s k
  | 0, _ => rfl
  | k + 1, hk => by
    unfold nb
    rw [nb_same h k (by omega), fi_same h (j := k) (by omega) k (by omega)]
theorem sn_same' (h : ∀ i j, i < n → j < n → (s' i = s' j ↔ s i = s j)) {j : Nat} (hj : j < n) : sn s' j = sn s j := by
  unfold sn
  rw [fi_same h hj j (by omega), nb_same h _ (by have := fi_le s (s j) j; omega)]
end

/-- Two histories of one shape. -/
structure Same (H K : Hist) : Prop where
  n : K.n = H.n
  s : ∀ i j, i < H.n → j < H.n → (K.s i = K.s j ↔ H.s i = H.s j)
  o : ∀ i, i < H.n → K.o i = H.o i
  v : ∀ i j, i < H.n → j < H.n → (K.v i = K.v j ↔ H.v i = H.v j)
  y : ∀ i j, i < H.n → j < H.n → (ys K i = ys K j ↔ ys H i = ys H j)

section
variable {H K : Hist}
theorem lastW_same (h : Same H K) {j : Nat} (hj : j < H.n) : ∀ k, k ≤ H.n → lastW K.o (ys K) (ys K j) k = lastW H.o (ys H) (ys H j) k
  | 0, _ => rfl
  | k + 1, hk => by
    have ih := lastW_same h hj k (by omega)
    have e := h.y k j (by omega) hj
    have eo := h.o k (by omega)
    unfold lastW
    rw [ih, eo]
    by_cases x : H.o k = 119 ∧ ys H k = ys H j
    · rw [if_pos x, if_pos ⟨x.1, e.2 x.2⟩]
    · rw [if_neg x, if_neg (fun y => x ⟨y.1, e.1 y.2⟩)]
theorem fromOf_same (h : Same H K) {j : Nat} (hj : j < H.n) : fromOf K j = fromOf H j := by
  have hw := lastW_same h hj H.n (Nat.le_refl _)
  have hb := lastW_lt H.o (ys H) (ys H j) H.n
  unfold fromOf
  rw [h.n, hw, h.o j hj]
  generalize lastW H.o (ys H) (ys H j) H.n = m at hb ⊢
  by_cases x : H.o j = 114 ∧ 0 ≤ m ∧ H.v m.toNat = H.v j
  · rw [if_pos x, if_pos ⟨x.1, x.2.1, (h.v _ j (by omega) hj).2 x.2.2⟩]
  · rw [if_neg x, if_neg (fun y => x ⟨y.1, y.2.1, (h.v _ j (by omega) hj).1 y.2.2⟩)]
theorem reads_same (h : Same H K) (m : Int) : ∀ k, k ≤ H.n → reads K m k = reads H m k
  | 0, _ => rfl
  | k + 1, hk => by
    unfold reads
    rw [reads_same h m k (by omega), fromOf_same h (j := k) (by omega)]
theorem ordered_same (h : Same H K) {w0 w : World} {g0 g1 g2 g3 g4 g5 gO : Nat} (ho : Ordered K w0 g0 g1 g2 g3 g4 g5 gO w) : Ordered H w0 g0 g1 g2 g3 g4 g5 gO w := by
  obtain ⟨hb, hu, hx, r0, r1, r2, r3, r4, r5⟩ := ho
  rw [h.n] at hx r0 r1 r2 r3 r4 r5
  rw [nb_same h.s H.n (Nat.le_refl _)] at hx
  exact ⟨hb, hu, hx, r0.congr (fun j hj => by rw [sn_same' h.s hj]), r1.congr (fun j hj => by rw [cnt_same h.s hj (j + 1) (by omega)]), r2.congr (fun j hj => by rw [lastB_same h.s hj j (by omega)]), r3.congr (fun j hj => by rw [fromOf_same h hj]), r4, r5.congr (fun j hj => by rw [reads_same h j H.n (Nat.le_refl _)])⟩
theorem zzn_same (h : Same H K) {w w' : World} {e : Ending} (hp : ZznPost K w e w') : ZznPost H w e w' := by
  obtain ⟨g0, g1, g2, g3, g4, g5, gO, he, ho⟩ := hp
  refine ⟨g0, g1, g2, g3, g4, g5, gO, ?_, ordered_same h ho⟩
  rw [he, h.n, nb_same h.s H.n (Nat.le_refl _)]
end

/-! ### the relabelling -/
def relab (H : Hist) (sk vk : Int) : Hist := ⟨H.n, fun i => bits .xor .i64 (H.s i) sk, H.o, fun i => bits .xor .i64 (H.v i) vk, fun i => ⟨#[126]⟩ ++ H.x i⟩
theorem xor_inj {a b k : Int} (ha : (Lit.int .i64 a).wf = true) (hb : (Lit.int .i64 b).wf = true) : bits .xor .i64 a k = bits .xor .i64 b k ↔ a = b := by
  refine ⟨fun h => ?_, fun h => by rw [h]⟩
  have a1 := bounds_i64 ha
  have b1 := bounds_i64 hb
  unfold bits at h
  simp only [IntKind.wrap_i64] at h
  have e : BitVec.ofInt 64 a ^^^ BitVec.ofInt 64 k = BitVec.ofInt 64 b ^^^ BitVec.ofInt 64 k := by
    apply BitVec.eq_of_toNat_eq
    have l1 := (BitVec.ofInt 64 a ^^^ BitVec.ofInt 64 k).isLt
    have l2 := (BitVec.ofInt 64 b ^^^ BitVec.ofInt 64 k).isLt
    have h' : (((BitVec.ofInt 64 a ^^^ BitVec.ofInt 64 k).toNat : Int) + 9223372036854775808) % 18446744073709551616 - 9223372036854775808 = (((BitVec.ofInt 64 b ^^^ BitVec.ofInt 64 k).toNat : Int) + 9223372036854775808) % 18446744073709551616 - 9223372036854775808 := h
    generalize (BitVec.ofInt 64 a ^^^ BitVec.ofInt 64 k).toNat = p at *
    generalize (BitVec.ofInt 64 b ^^^ BitVec.ofInt 64 k).toNat = q at *
    omega
  have e2 : BitVec.ofInt 64 a = BitVec.ofInt 64 b := by
    have := congrArg (· ^^^ BitVec.ofInt 64 k) e
    simpa [BitVec.xor_assoc] using this
  have e3 := congrArg BitVec.toInt e2
  rw [BitVec.toInt_ofInt, BitVec.toInt_ofInt] at e3
  simp only [Int.bmod_def] at e3
  omega
theorem ys_relab (H : Hist) (sk vk : Int) (i : Nat) : ys (relab H sk vk) i = 126 :: ys H i := by
  show ((⟨#[126]⟩ ++ H.x i : ByteArray)).data.toList = _
  simp [ys]
theorem relab_same (H : Hist) (sk vk : Int) (hs : ∀ k, k < H.n → (Lit.int .i64 (H.s k)).wf = true) (hv : ∀ k, k < H.n → (Lit.int .i64 (H.v k)).wf = true) : Same H (relab H sk vk) :=
  ⟨rfl, fun i j hi hj => xor_inj (hs i hi) (hs j hj), fun i hi => rfl, fun i j hi hj => xor_inj (hv i hi) (hv j hj), fun i j hi hj => by rw [ys_relab, ys_relab]; simp⟩
end Go.Proofs.Qxb6603687a
