/-
  FnUnionExact (4): the law's walk.
-/
import Derived.Test.Qxb6603687aZzu
namespace Go.Proofs.Qxb6603687a
open Go.RowKit Go.Maps
set_option linter.unusedVariables false

/-! ### zzBytes: some Boolean -/
set_option maxHeartbeats 400000 in
theorem bytes16_any (first next : Int) (ad dd aa bb : Option Addr) (n cap : Nat) (D A B : Wd) (dc ac bc : Nat) (w : World) (h1 : n ≤ 9223372036854775807) (h2 : D.n ≤ 9223372036854775807) (h3 : A.n ≤ 9223372036854775807) (h4 : B.n ≤ 9223372036854775807) :
    Calls Try.prog 16 #[.int .i64 first, .slice ad n cap, .int .i64 next, .slice dd D.n dc, .slice aa A.n ac, .slice bb B.n bc] w fun e w' => (∃ q : Bool, e = .returned (.bool q)) ∧ w = w' := by
  by_cases g1 : n ≤ 1048576
  · by_cases g2 : D.n ≤ 1048576
    · by_cases g3 : A.n ≤ 1048576
      · by_cases g4 : B.n ≤ 1048576
        · go_enter Try.func16, Try.ntmps16
          go_wp2
          all_goals go_ret
          all_goals exact ⟨⟨_, rfl⟩, rfl⟩
        · go_enter Try.func16, Try.ntmps16
          go_wp2
          all_goals go_ret
          all_goals exact ⟨⟨_, rfl⟩, rfl⟩
      · go_enter Try.func16, Try.ntmps16
        go_wp2
        all_goals go_ret
        all_goals exact ⟨⟨_, rfl⟩, rfl⟩
    · go_enter Try.func16, Try.ntmps16
      go_wp2
      all_goals go_ret
      all_goals exact ⟨⟨_, rfl⟩, rfl⟩
  · go_enter Try.func16, Try.ntmps16
    go_wp2
    all_goals go_ret
    all_goals exact ⟨⟨_, rfl⟩, rfl⟩

theorem liveWord_same (first : Int) (ad : Option Addr) (n cap : Nat) (f : Nat → Int) (x : Int) (w : World) (hn : n ≤ 65536) (hf : (Lit.int .i64 first).wf = true) (hx : (Lit.int .i64 x).wf = true) (hfn : first + (n : Int) ≤ 9223372036854775807) (hin : Ints w ad .u64 n f) :
    Calls Try.prog 23 #[.int .i64 first, .slice ad n cap, .int .i64 x] w fun e w' => e = .returned (.int .u64 (live first n f x)) ∧ w' = w := (liveWord_any first ad n cap f x w hn hf hx hfn hin).mono fun _ _ h => ⟨h.1, h.2.symm⟩
theorem andB_zero (y : Int) : andB 0 y = 0 := by
  have e : (BitVec.ofInt 64 0 &&& BitVec.ofInt 64 y) = 0#64 := by simp
  show IntKind.u64.wrap ((BitVec.ofInt 64 0 &&& BitVec.ofInt 64 y).toNat : Int) = 0
  rw [e]
  rfl
/-- What is in the union is in one of the two. -/
theorem want_in {A B : Wd} {L : Int → Int} {x : Int} (h : want A B L x ≠ 0) : (∃ i, i < A.n ∧ A.ix i = x) ∨ (∃ j, j < B.n ∧ B.ix j = x) := by
  apply Classical.byContradiction
  intro hn
  apply h
  have h1 : bitsOf A x = 0 := bitsOf_no (fun i hi e => hn (.inl ⟨i, hi, e⟩))
  have h2 : bitsOf B x = 0 := bitsOf_no (fun i hi e => hn (.inr ⟨i, hi, e⟩))
  unfold want
  rw [h1, h2, orB_zero (by decide), andB_zero]

/-- Behind ZZUnion. -/
structure L4 (w0 : World) (first : Int) (n : Nat) (f : Nat → Int) (A B D O : Wd) (wa da aa ba o1 o2 : Option Addr) (w : World) : Prop where
  below : Below w0.heap.size w0 w
  ws : Ints w wa .u64 n f
  d : Words w da D
  a : Words w aa A
  b : Words w ba B
  i : Ints w o1 .i64 O.n O.ix
  v : Ints w o2 .u64 O.n O.bt
  inv : UInv A B D (live first n f) A.n B.n O

theorem sorted_no {S : Wd} {w w' : World} {e : Ending} (h : SaysSorted S w e w') : ∃ q : Bool, e = .returned (.bool q) ∧ (q = true → Sorted S) ∧ Below w.heap.size w w' := by
  obtain ⟨q, he, hs, m, hw⟩ := h
  subst hw
  exact ⟨q, he, hs, below_drewN (Below.refl _ _) m⟩

theorem ca_next_yes {A B : Wd} {L : Int → Int} {k : Nat} {v : Int} (h : bits .and .u64 (bits .or .u64 (A.bt k) (bitsOf B (A.ix k))) (L (A.ix k)) = v) (hv : v ≠ 0) : ca A B L (k + 1) = ca A B L k + 1 := by
  show ca A B L k + (if andB (orB (A.bt k) (bitsOf B (A.ix k))) (L (A.ix k)) = 0 then 0 else 1) = _
  have e : andB (orB (A.bt k) (bitsOf B (A.ix k))) (L (A.ix k)) = v := h
  rw [e, if_neg hv]
theorem ca_next_no {A B : Wd} {L : Int → Int} {k : Nat} {v : Int} (h : bits .and .u64 (bits .or .u64 (A.bt k) (bitsOf B (A.ix k))) (L (A.ix k)) = v) (hv : v = 0) : ca A B L (k + 1) = ca A B L k := by
  show ca A B L k + (if andB (orB (A.bt k) (bitsOf B (A.ix k))) (L (A.ix k)) = 0 then 0 else 1) = _
  have e : andB (orB (A.bt k) (bitsOf B (A.ix k))) (L (A.ix k)) = v := h
  rw [e, if_pos hv]; rfl
theorem cb_next_in {A B : Wd} {L : Int → Int} {k : Nat} (h : inOf A (B.ix k) = true) : cb A B L (k + 1) = cb A B L k := by
  show cb A B L k + (if inOf A (B.ix k) = false ∧ andB (B.bt k) (L (B.ix k)) ≠ 0 then 1 else 0) = _
  rw [if_neg (fun x => by rw [h] at x; cases x.1)]; rfl
theorem cb_next_yes {A B : Wd} {L : Int → Int} {k : Nat} {v : Int} (hi : inOf A (B.ix k) = false) (h : bits .and .u64 (B.bt k) (L (B.ix k)) = v) (hv : v ≠ 0) : cb A B L (k + 1) = cb A B L k + 1 := by
  show cb A B L k + (if inOf A (B.ix k) = false ∧ andB (B.bt k) (L (B.ix k)) ≠ 0 then 1 else 0) = _
  have e : andB (B.bt k) (L (B.ix k)) = v := h
  rw [if_pos ⟨hi, by rw [e]; exact hv⟩]
theorem cb_next_no {A B : Wd} {L : Int → Int} {k : Nat} {v : Int} (h : bits .and .u64 (B.bt k) (L (B.ix k)) = v) (hv : v = 0) : cb A B L (k + 1) = cb A B L k := by
  show cb A B L k + (if inOf A (B.ix k) = false ∧ andB (B.bt k) (L (B.ix k)) ≠ 0 then 1 else 0) = _
  have e : andB (B.bt k) (L (B.ix k)) = v := h
  rw [if_neg (fun x => x.2 (by rw [e]; exact hv))]; rfl

set_option maxRecDepth 100000 in
set_option maxHeartbeats 1000000 in
theorem law4_main (first next : Int) (ad dd aa bb : Option Addr) (n cap : Nat) (f : Nat → Int) (D A B : Wd) (dc ac bc : Nat) (w : World) (hnW : n ≤ 65536) (hnD : D.n ≤ 65536) (hnA : A.n ≤ 65536) (hnB : B.n ≤ 65536)
    (hf : (Lit.int .i64 first).wf = true) (hW : Ints w ad .u64 n f) (hD : Words w dd D) (hA : Words w aa A) (hB : Words w bb B)
    (iA : ∀ k, k < A.n → (Lit.int .i64 (A.ix k)).wf = true) (iB : ∀ k, k < B.n → (Lit.int .i64 (B.ix k)).wf = true) (wA : ∀ k, k < A.n → (Lit.int .u64 (A.bt k)).wf = true) (wB : ∀ k, k < B.n → (Lit.int .u64 (B.bt k)).wf = true) :
    Calls Try.prog 4 #[.int .i64 first, .slice ad n cap, .int .i64 next, .slice dd D.n dc, .slice aa A.n ac, .slice bb B.n bc] w fun e w' => e = .returned (.bool true) ∧ Below w.heap.size w w' := by
  have hbf := bounds_i64 hf
  have hwn : IntKind.i64.wrap (9223372036854775807 - (n : Int)) = 9223372036854775807 - (n : Int) := by rw [IntKind.wrap_i64]; omega
  go_enter Try.func4, Try.ntmps4
  go_wp2_with (first
    | (go_at_call 16; refine (bytes16_any _ _ _ _ _ _ n _ D A B _ _ _ w (by omega) (by omega) (by omega) (by omega)).mono ?_; rintro e wx ⟨⟨q, rfl⟩, rfl⟩; cases q)
    | (go_at_call 17; have hx := hz1; clear hx; refine (sorted_any bb _ B w1 hnB (hB.below hz1)).mono ?_; intro e w2 hs; obtain ⟨q2, rfl, hsB, hz2⟩ := sorted_no hs; clear hs; cases q2)
    | (go_at_call 17; refine (sorted_any aa _ A w hnA hA).mono ?_; intro e w1 hs; obtain ⟨q1, rfl, hsA, hz1⟩ := sorted_no hs; clear hs; cases q1)
    | (go_at_call 18; refine (copyU64_any ad n cap f w2 hnW (hW.below (hz1.trans (hz2.mono hz1.size)))).mono ?_; rintro e w3 ⟨wa, rfl, hz3, hcW⟩; have hcum := (hz1.trans (hz2.mono hz1.size)).trans (hz3.mono (hz1.trans (hz2.mono hz1.size)).size); replace hD := hD.below hcum; replace hA := hA.below hcum; replace hB := hB.below hcum)
    | (go_at_call 19; have hx := hz5; clear hx; refine (copyWords_any bb bc B w5 hnB hB).mono ?_; rintro e w6 ⟨ba, rfl, hz6, hcB⟩; replace hcum := hcum.trans (hz6.mono hcum.size); replace hcW := hcW.below hz6; replace hcD := hcD.below hz6; replace hcA := hcA.below hz6)
    | (go_at_call 19; have hx := hz4; clear hx; refine (copyWords_any aa ac A w4 hnA hA).mono ?_; rintro e w5 ⟨aa', rfl, hz5, hcA⟩; replace hcum := hcum.trans (hz5.mono hcum.size); replace hcW := hcW.below hz5; replace hcD := hcD.below hz5; replace hB := hB.below hz5)
    | (go_at_call 19; refine (copyWords_any dd dc D w3 hnD hD).mono ?_; rintro e w4 ⟨da, rfl, hz4, hcD⟩; replace hcum := hcum.trans (hz4.mono hcum.size); replace hcW := hcW.below hz4; replace hA := hA.below hz4; replace hB := hB.below hz4)
    | (go_at_call 20; have hx := hz8; clear hx; refine (split_any ba B.n B w8 hnB hcB).mono ?_; rintro e w9 ⟨b1, b2, rfl, hz9, hb1, hb2⟩; replace hcum := hcum.trans (hz9.mono hcum.size); replace hcW := hcW.below hz9; replace hcD := hcD.below hz9; replace hcA := hcA.below hz9; replace hcB := hcB.below hz9; replace hd1 := hd1.below hz9; replace hd2 := hd2.below hz9; replace ha1 := ha1.below hz9; replace ha2 := ha2.below hz9)
    | (go_at_call 20; have hx := hz7; clear hx; refine (split_any aa' A.n A w7 hnA hcA).mono ?_; rintro e w8 ⟨a1, a2, rfl, hz8, ha1, ha2⟩; replace hcum := hcum.trans (hz8.mono hcum.size); replace hcW := hcW.below hz8; replace hcD := hcD.below hz8; replace hcA := hcA.below hz8; replace hcB := hcB.below hz8; replace hd1 := hd1.below hz8; replace hd2 := hd2.below hz8)
    | (go_at_call 20; refine (split_any da D.n D w6 hnD hcD).mono ?_; rintro e w7 ⟨d1, d2, rfl, hz7, hd1, hd2⟩; replace hcum := hcum.trans (hz7.mono hcum.size); replace hcW := hcW.below hz7; replace hcD := hcD.below hz7; replace hcA := hcA.below hz7; replace hcB := hcB.below hz7)
    | (go_at_call 21; have hZ : ZArgs first n A B D := ⟨hnW, hf, by omega, hsA (by trivial), hsB (by trivial), iA, iB, wA, wB, hnA, hnB, hnD⟩; refine (zzu_any first next wa n n f A B D d1 d2 a1 a2 b1 b2 w9 hZ hcW hd1 hd2 ha1 ha2 hb1 hb2).mono ?_; rintro e w10 ⟨O, o1, o2, rfl, hz10, hoi, hov, hu⟩; have hL : L4 w first n f A B D O wa da aa' ba o1 o2 w10 := ⟨hcum.trans (hz10.mono hcum.size), hcW.below hz10, hcD.below hz10, hcA.below hz10, hcB.below hz10, hoi, hov, hu⟩; clear hz1 hz2 hz3 hz4 hz5 hz6 hz7 hz8 hz9 hz10 hcum hcW hcD hcA hcB hd1 hd2 ha1 ha2 hb1 hb2 hD hA hB hoi hov hu hsA hsB hW))
  · go_ret
    exact ⟨rfl, Below.refl _ _⟩
  · go_ret
    exact ⟨rfl, Below.refl _ _⟩
  · go_ret
    exact ⟨rfl, Below.refl _ _⟩
  · go_ret
    exact ⟨rfl, hz1⟩
  · go_ret
    exact ⟨rfl, hz1.trans (hz2.mono hz1.size)⟩
  · have hsA := hZ.sA
    have hsB := hZ.sB
    have hfn := hZ.hfn
    have hLa := hL.a
    have hLb := hL.b
    have hLd := hL.d
    have hLi := hL.i
    have hLv := hL.v
    have hLw := hL.ws
    clear hwn
    go_loopw [21, 22] (fun c i wr => ∃ k m : Nat, k ≤ A.n ∧ i = .int .i64 k ∧ c = .int .i64 (ca A B (live first n f) k : Int) ∧ wr = w10.drewN m) (fun c i _ => A.n - (intOf i).toNat)
    case atStart => exact ⟨0, 0, Nat.zero_le _, rfl, rfl, rfl⟩
    case round =>
      obtain ⟨k, m, hk, rfl, rfl, rfl⟩ := hrel
      have hcl := ca_le A B (live first n f) k
      by_cases hlt : k < A.n
      · obtain ⟨wr, hwr⟩ : ∃ wr, w10.drewN m = wr := ⟨_, rfl⟩
        have hLa' : Words wr aa' A := by rw [← hwr]; exact hLa
        have hLb' : Words wr ba B := by rw [← hwr]; exact hLb
        have hLw' : Ints wr wa .u64 n f := by rw [← hwr]; exact hLw
        have HWR : Hid (w10.drewN m = wr) := hwr
        rw [hwr]
        clear hwr
        obtain ⟨b, off, hae, hlb, c1, c2⟩ := hLa'.at_ hlt
        cases hae
        obtain ⟨v, hv⟩ : ∃ v, bits .and .u64 (bits .or .u64 (A.bt k) (bitsOf B (A.ix k))) (live first n f (A.ix k)) = v := ⟨_, rfl⟩
        have HV : Hid (bits .and .u64 (bits .or .u64 (A.bt k) (bitsOf B (A.ix k))) (live first n f (A.ix k)) = v) := hv
        have i0 : (0 : Int) ≤ (k : Int) := by omega
        have i1 : (k : Int) < (A.n : Int) := by omega
        have hxw := iA k hlt
        by_cases hv0 : v = 0
        · have hvb : (v != 0) = false := by simp [hv0]
          have HV0 : Hid (v = 0) := hv0
          clear hv0
          go_wp2_with (go_at_call 22; refine (findBits_any ba B.n B (A.ix k) _ hnB hsB hLb').mono ?_; rintro e wx ⟨rfl, rfl⟩)
          go_quiet ((go_at_call 23; exact Calls.quiet_of_same (liveWord_same first wa n n f (A.ix k) _ hnW hf hxw hfn (by exact hLw'))))
          go_wp2
          go_roundw
          case rel => exact ⟨k + 1, _, by omega, by go_num, by rw [ca_next_no HV.out HV0.out], by rw [← HWR.out, World.drewN_drewN]⟩
          case measure => simp [intOf]; omega
        · have hvb : (v != 0) = true := by simp [hv0]
          go_wp2_with (go_at_call 22; refine (findBits_any ba B.n B (A.ix k) _ hnB hsB hLb').mono ?_; rintro e wx ⟨rfl, rfl⟩)
          go_quiet ((go_at_call 23; exact Calls.quiet_of_same (liveWord_same first wa n n f (A.ix k) _ hnW hf hxw hfn (by exact hLw'))))
          go_wp2
          go_roundw
          case rel => exact ⟨k + 1, _, by omega, by go_num, by rw [ca_next_yes HV.out hv0]; go_num, by rw [← HWR.out, World.drewN_drewN]⟩
          case measure => simp [intOf]; omega
      · have hke : k = A.n := by omega
        subst hke
        go_wp2
        go_loopw [21, 26] (fun c i wr => ∃ k m q : Nat, k ≤ B.n ∧ i = .int .i64 k ∧ c = .int .i64 (q : Int) ∧ q = ca A B (live first n f) A.n + cb A B (live first n f) k ∧ wr = w10.drewN m) (fun c i _ => B.n - (intOf i).toNat)
        case atStart => exact ⟨0, m, _, Nat.zero_le _, rfl, rfl, rfl, rfl⟩
        case round =>
          obtain ⟨k, m, q, hk, rfl, rfl, hq, rfl⟩ := hrel
          have hcl2 := cb_le A B (live first n f) k
          have hql : q ≤ 131072 := by omega
          have HQ : Hid (q = ca A B (live first n f) A.n + cb A B (live first n f) k) := hq
          clear hq
          by_cases hlt : k < B.n
          · obtain ⟨wr, hwr⟩ : ∃ wr, w10.drewN m = wr := ⟨_, rfl⟩
            have hLa' : Words wr aa' A := by rw [← hwr]; exact hLa
            have hLb' : Words wr ba B := by rw [← hwr]; exact hLb
            have hLw' : Ints wr wa .u64 n f := by rw [← hwr]; exact hLw
            have HWR : Hid (w10.drewN m = wr) := hwr
            rw [hwr]
            clear hwr
            obtain ⟨b, off, hae, hlb, c1, c2⟩ := hLb'.at_ hlt
            cases hae
            have i0 : (0 : Int) ≤ (k : Int) := by omega
            have i1 : (k : Int) < (B.n : Int) := by omega
            have hxw := iB k hlt
            by_cases hin : inOf A (B.ix k) = true
            · have HI : Hid (inOf A (B.ix k) = true) := hin
              go_wp2_with (go_at_call 22; refine (findBits_any aa' A.n A (B.ix k) _ hnA hsA hLa').mono ?_; rintro e wx ⟨rfl, rfl⟩)
              go_roundw
              case rel => exact ⟨k + 1, _, q, by omega, by go_num, rfl, by rw [cb_next_in HI.out]; exact HQ.out, by rw [← HWR.out]⟩
              case measure => simp [intOf]; omega
            · have hin' : inOf A (B.ix k) = false := by simpa using hin
              have HI : Hid (inOf A (B.ix k) = false) := hin'
              clear hin
              obtain ⟨v, hv⟩ : ∃ v, bits .and .u64 (B.bt k) (live first n f (B.ix k)) = v := ⟨_, rfl⟩
              have HV : Hid (bits .and .u64 (B.bt k) (live first n f (B.ix k)) = v) := hv
              by_cases hv0 : v = 0
              · have hvb : (v != 0) = false := by simp [hv0]
                have HV0 : Hid (v = 0) := hv0
                clear hv0
                go_wp2_with (go_at_call 22; refine (findBits_any aa' A.n A (B.ix k) _ hnA hsA hLa').mono ?_; rintro e wx ⟨rfl, rfl⟩)
                go_quiet ((go_at_call 23; exact Calls.quiet_of_same (liveWord_same first wa n n f (B.ix k) _ hnW hf hxw hfn (by exact hLw'))))
                go_wp2
                go_roundw
                case rel => exact ⟨k + 1, _, q, by omega, by go_num, rfl, by rw [cb_next_no HV.out HV0.out]; exact HQ.out, by rw [← HWR.out, World.drewN_drewN]⟩
                case measure => simp [intOf]; omega
              · have hvb : (v != 0) = true := by simp [hv0]
                go_wp2_with (go_at_call 22; refine (findBits_any aa' A.n A (B.ix k) _ hnA hsA hLa').mono ?_; rintro e wx ⟨rfl, rfl⟩)
                go_quiet ((go_at_call 23; exact Calls.quiet_of_same (liveWord_same first wa n n f (B.ix k) _ hnW hf hxw hfn (by exact hLw'))))
                go_wp2
                go_roundw
                case rel => exact ⟨k + 1, _, q + 1, by omega, by go_num, by go_num, by rw [cb_next_yes HI.out HV.out hv0, HQ.out]; omega, by rw [← HWR.out, World.drewN_drewN]⟩
                case measure => simp [intOf]; omega
          · have hke : k = B.n := by omega
            subst hke
            have hu := hL.inv
            have hNn : O.n = D.n + q := by rw [hu.n, HQ.out]; omega
            have HN : Hid (O.n = D.n + q) := hNn
            have hOn : O.n ≤ 196608 := by omega
            have hDO : D.n ≤ O.n := by omega
            have ht1 : (((O.n : Nat) : Int) != (D.n : Int) + (q : Int)) = false := by simp; omega
            clear hNn hcl hcl2
            go_wp2
            go_loopw [30] (fun i wr => ∃ k m : Nat, k ≤ D.n ∧ i = .int .i64 k ∧ wr = w10.drewN m) (fun i _ => D.n - (intOf i).toNat)
            case atStart => exact ⟨0, m, Nat.zero_le _, rfl, rfl⟩
            case round =>
              obtain ⟨k, m, hk, rfl, rfl⟩ := hrel
              by_cases hlt : k < D.n
              · obtain ⟨b, off, hae, hlb, c1, c2⟩ := hLd.at_ hlt
                obtain ⟨b2, off2, hae2, hlb2, d1⟩ := hLi.at_ (k := k) (by omega)
                obtain ⟨b3, off3, hae3, hlb3, e1⟩ := hLv.at_ (k := k) (by omega)
                rw [(hu.pre k hlt).1] at d1
                rw [(hu.pre k hlt).2] at e1
                cases hae
                cases hae2
                cases hae3
                have i0 : (0 : Int) ≤ (k : Int) := by omega
                have i1 : (k : Int) < (D.n : Int) := by omega
                have i2 : (k : Int) < (O.n : Int) := by omega
                have t1 : (D.ix k != D.ix k) = false := by simp
                have t2 : (D.bt k != D.bt k) = false := by simp
                go_wp2
                go_quiet (fail)
                go_wp2
                go_roundw
                case rel => exact ⟨k + 1, _, by omega, by go_num, rfl⟩
                case measure => simp [intOf]; omega
              · have hke : k = D.n := by omega
                subst hke
                go_wp2
                go_loopw [31] (fun i wr => ∃ k m : Nat, k ≤ O.n ∧ D.n ≤ k ∧ i = .int .i64 k ∧ wr = w10.drewN m) (fun i _ => O.n - (intOf i).toNat)
                case atStart => exact ⟨D.n, m, hDO, Nat.le_refl _, rfl, rfl⟩
                case round =>
                  obtain ⟨k, m, hk, hkD, rfl, rfl⟩ := hrel
                  by_cases hlt : k < O.n
                  · obtain ⟨b2, off2, hae2, hlb2, d1⟩ := hLi.at_ hlt
                    obtain ⟨b3, off3, hae3, hlb3, e1⟩ := hLv.at_ hlt
                    obtain ⟨hvw, hvn⟩ := hu.val k hkD hlt
                    have hw1 : bits .and .u64 (bits .or .u64 (bitsOf A (O.ix k)) (bitsOf B (O.ix k))) (live first n f (O.ix k)) = O.bt k := hvw.symm
                    have t1 : (O.bt k == 0) = false := by simp [hvn]
                    have t2 : (O.bt k != O.bt k) = false := by simp
                    have hxw : (Lit.int .i64 (O.ix k)).wf = true := by
                      rcases want_in (A := A) (B := B) (L := live first n f) (x := O.ix k) (by rw [← hvw]; exact hvn) with ⟨i, hi, e⟩ | ⟨i, hi, e⟩
                      · rw [← e]; exact iA i hi
                      · rw [← e]; exact iB i hi
                    cases hae2
                    cases hae3
                    have i0 : (0 : Int) ≤ (k : Int) := by omega
                    have i2 : (k : Int) < (O.n : Int) := by omega
                    clear hvw
                    by_cases hkd : D.n < k
                    · obtain ⟨k', rfl⟩ : ∃ k', k = k' + 1 := ⟨k - 1, by omega⟩
                      obtain ⟨b4, off4, hae4, hlb4, d2⟩ := hLi.at_ (k := k') (by omega)
                      cases hae4
                      have hinc := hu.inc k' (by omega) hlt
                      have t3 : decide (O.ix (k' + 1) ≤ O.ix k') = false := by simp; omega
                      have j1 : IntKind.i64.wrap (k' : Int) = (k' : Int) := by rw [IntKind.wrap_i64]; omega
                      go_wp2_with (first
                        | (go_at_call 22; have hx := hm1; clear hx; refine (findBits_any ba B.n B _ _ hnB hsB (hLb.drewN m)).mono ?_; rintro e wx ⟨rfl, rfl⟩)
                        | (go_at_call 22; refine (findBits_any aa' A.n A _ _ hnA hsA (hLa.drewN m)).mono ?_; rintro e wx ⟨rfl, rfl⟩; have hm1 : Hid (k' = k') := rfl)
                        | (go_at_call 23; refine (liveWord_any first wa n n f (O.ix (k' + 1)) _ hnW hf hxw hfn (by exact hLw)).mono ?_; rintro e wx ⟨rfl, rfl⟩))
                      go_roundw
                      case rel => exact ⟨k' + 1 + 1, _, by omega, by omega, by go_num, rfl⟩
                      case measure => simp [intOf]; omega
                    · have hkd' : decide ((D.n : Int) < (k : Int)) = false := by simp; omega
                      go_wp2_with (first
                        | (go_at_call 22; have hx := hm1; clear hx; refine (findBits_any ba B.n B _ _ hnB hsB (hLb.drewN m)).mono ?_; rintro e wx ⟨rfl, rfl⟩)
                        | (go_at_call 22; refine (findBits_any aa' A.n A _ _ hnA hsA (hLa.drewN m)).mono ?_; rintro e wx ⟨rfl, rfl⟩; have hm1 : Hid (k = k) := rfl)
                        | (go_at_call 23; refine (liveWord_any first wa n n f (O.ix k) _ hnW hf hxw hfn (by exact hLw)).mono ?_; rintro e wx ⟨rfl, rfl⟩))
                      go_roundw
                      case rel => exact ⟨k + 1, _, by omega, by omega, by go_num, rfl⟩
                      case measure => simp [intOf]; omega
                  · go_wp2
                    go_ret
                    exact ⟨rfl, below_drewN hL.below m⟩
end Go.Proofs.Qxb6603687a
