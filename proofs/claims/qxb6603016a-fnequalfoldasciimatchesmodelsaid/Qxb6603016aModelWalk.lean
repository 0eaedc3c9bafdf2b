/-
  FnEqualFoldASCIIMatchesModel: the callees and the walk of the law.
-/
import Derived.Test.Qxb6603016aFold
import Derived.WalkKit
import Derived.Deep.QuietTactic
import Derived.BigQuiet
namespace Go.Proofs.Qxb6603016a.fnEqualFoldASCIIMatchesModel
open Go.RowKit
set_option linter.unusedVariables false

/-! ### Plain: the case bit, at each of 256 bytes -/
theorem xor_fin : ∀ i : Fin 256, bits .xor .u8 (i.val : Int) 32 = if (i.val : Int) / 32 % 2 = 1 then (i.val : Int) - 32 else (i.val : Int) + 32 := by decide +kernel
theorem or_fin : ∀ i : Fin 256, bits .or .u8 (i.val : Int) 32 = if (i.val : Int) / 32 % 2 = 1 then (i.val : Int) else (i.val : Int) + 32 := by decide +kernel
theorem xor_at (c : Int) (h0 : 0 ≤ c) (h1 : c ≤ 255) : bits .xor .u8 c 32 = if c / 32 % 2 = 1 then c - 32 else c + 32 := by
  have := xor_fin ⟨c.toNat, by omega⟩
  simpa only [Int.toNat_of_nonneg h0] using this
theorem or_at (c : Int) (h0 : 0 ≤ c) (h1 : c ≤ 255) : bits .or .u8 c 32 = if c / 32 % 2 = 1 then c else c + 32 := by
  have := or_fin ⟨c.toNat, by omega⟩
  simpa only [Int.toNat_of_nonneg h0] using this
theorem low_cases (n : Int) : (65 ≤ n ∧ n ≤ 90 ∧ low n = n + 32) ∨ (¬ (65 ≤ n ∧ n ≤ 90) ∧ low n = n) := by
  unfold low
  by_cases h : 65 ≤ n ∧ n ≤ 90
  · exact .inl ⟨h.1, h.2, if_pos h⟩
  · exact .inr ⟨h, if_neg h⟩
/-- Two different bytes fold to one just if they part in the case bit and are letters. -/
theorem feq_iff (x y : Int) (hx0 : 0 ≤ x) (hx1 : x ≤ 255) (hy0 : 0 ≤ y) (hy1 : y ≤ 255) (hq : (x == y) = false) :
    low x = low y ↔ (bits .xor .u8 x 32 = y ∧ 97 ≤ bits .or .u8 x 32 ∧ bits .or .u8 x 32 ≤ 122) := by
  have hq : x ≠ y := by simpa using hq
  rw [xor_at x hx0 hx1, or_at x hx0 hx1]
  rcases low_cases x with ⟨a, b, e⟩ | ⟨a, e⟩ <;> rcases low_cases y with ⟨c, d, f⟩ | ⟨c, f⟩ <;> rw [e, f] <;> split <;> omega
theorem feq_yes {x y : Int} (hx0 : 0 ≤ x) (hx1 : x ≤ 255) (hy0 : 0 ≤ y) (hy1 : y ≤ 255) (hq : (x == y) = false) (h1 : bits .xor .u8 x 32 = y) (h2 : 97 ≤ bits .or .u8 x 32) :
    decide (bits .or .u8 x 32 ≤ 122) = (low x == low y) := by
  rw [Bool.eq_iff_iff, decide_eq_true_iff, beq_iff_eq, feq_iff x y hx0 hx1 hy0 hy1 hq]
  exact ⟨fun h => ⟨h1, h2, h⟩, fun h => h.2.2⟩
theorem feq_no {x y : Int} (hx0 : 0 ≤ x) (hx1 : x ≤ 255) (hy0 : 0 ≤ y) (hy1 : y ≤ 255) (hq : (x == y) = false) (h : ¬ (bits .xor .u8 x 32 = y ∧ 97 ≤ bits .or .u8 x 32)) :
    false = (low x == low y) := by
  rw [eq_comm, beq_eq_false_iff_ne]
  intro e
  have := (feq_iff x y hx0 hx1 hy0 hy1 hq).1 e
  exact h ⟨this.1, this.2.1⟩

theorem feq_any (x y : Int) (hx0 : 0 ≤ x) (hx1 : x ≤ 255) (hy0 : 0 ≤ y) (hy1 : y ≤ 255) (w : World) :
    Calls Try.prog 21 #[.int .u8 x, .int .u8 y] w fun e w' => e = .returned (.bool (low x == low y)) ∧ w' = w := by
  by_cases hq : x = y
  · subst hq
    go_enter Try.func21, Try.ntmps21
    go_wp2
    go_ret
    exact ⟨ret_bool (by simp), rfl⟩
  · have hq' : (x == y) = false := by simp [hq]
    clear hq
    go_enter Try.func21, Try.ntmps21
    go_wp2
    · have h1 : bits .xor .u8 x 32 = y := by assumption
      have h2 : 97 ≤ bits .or .u8 x 32 := by assumption
      go_ret
      exact ⟨ret_bool (feq_yes hx0 hx1 hy0 hy1 hq' h1 h2), rfl⟩
    · have h2 : bits .or .u8 x 32 < 97 := by assumption
      go_ret
      exact ⟨ret_bool (feq_no hx0 hx1 hy0 hy1 hq' (by omega)), rfl⟩
    · have h1 : ¬ bits .xor .u8 x 32 = y := by assumption
      go_ret
      exact ⟨ret_bool (feq_no hx0 hx1 hy0 hy1 hq' (fun h => h1 h.1)), rfl⟩

theorem bytes2_any (a b : ByteArray) (w : World) :
    Calls Try.prog 20 #[.string a, .string b] w fun e w' => ∃ q, e = .returned (.bool q) ∧ w' = w := by
  go_enter Try.func20, Try.ntmps20
  go_wp2
  all_goals go_ret
  all_goals exact ⟨_, rfl, rfl⟩

/-! ### The walk: the law returns true; the world has at most drawn. -/
def upTo (a b : ByteArray) (k : Nat) : Bool := decide (((nums a).take k).map low = ((nums b).take k).map low)
theorem upTo_snoc (a b : ByteArray) (k : Nat) (h : k < a.size) (h' : k < b.size) : upTo a b (k + 1) = (upTo a b k && (low (a[k].toNat : Int) == low (b[k].toNat : Int))) := by
  have e1 : (nums a).take (k + 1) = (nums a).take k ++ [(a[k].toNat : Int)] := by rw [List.take_add_one, nums_get a k h]; rfl
  have e2 : (nums b).take (k + 1) = (nums b).take k ++ [(b[k].toNat : Int)] := by rw [List.take_add_one, nums_get b k h']; rfl
  unfold upTo
  rw [e1, e2, List.map_append, List.map_append, Bool.eq_iff_iff]
  have hl : (((nums a).take k).map low).length = (((nums b).take k).map low).length := by simp [nums_length]; omega
  constructor
  · intro h
    have := List.append_inj (of_decide_eq_true h) hl
    simp [this.1] at this ⊢
    exact this
  · intro h
    simp at h ⊢
    exact h
theorem upTo_end (a b : ByteArray) (k : Nat) (h : a.size ≤ k) (h' : b.size ≤ k) : upTo a b k = efold a b := by
  unfold upTo efold
  rw [List.take_of_length_le (by rw [nums_length]; exact h), List.take_of_length_le (by rw [nums_length]; exact h')]
theorem grown_drewN (w : World) (n : Nat) : Grown w (w.drewN n) := by
  induction n with
  | zero => exact Grown.refl _
  | succ n ih => exact ih.drew

set_option maxHeartbeats 400000 in
theorem walk (a0 : ByteArray) (a1 : ByteArray) (w0 : a0.size ≤ maxLen) (w1 : a1.size ≤ maxLen) (w : World) :
    Calls Try.prog 8 #[.string a0, .string a1] w fun e w' => e = .returned (.bool true) ∧ Grown w w' := by
  by_cases h0 : a0.size ≤ 65536
  · by_cases h1 : a1.size ≤ 65536
    · by_cases he : a0.size = a1.size
      · have l1 : a0.size ≤ a1.size := by omega
        have l2 : a1.size ≤ a0.size := by omega
        have he' : ((a0.size : Int) == (a1.size : Int)) = true := by simp [he]
        clear he
        go_enter Try.func8, Try.ntmps8
        go_wp2_with (first | (go_at_call 20; refine (bytes2_any _ _ _).mono ?_; rintro e w' ⟨q, rfl, rfl⟩; cases q))
        · go_ret
          exact ⟨rfl, Grown.refl _⟩
        · go_loopw [5, 6] (fun t i wr => ∃ k : Nat, k ≤ a0.size ∧ i = .int .i64 k ∧ t = .bool (upTo a0 a1 k) ∧ ∃ n, wr = w'.drewN n) (fun _ i _ => a0.size - (intOf i).toNat)
          case atStart => exact ⟨0, Nat.zero_le _, rfl, rfl, 0, rfl⟩
          case round =>
            obtain ⟨k, hk, rfl, rfl, hw⟩ := hrel
            have HW : Hid (∃ n, wr = w'.drewN n) := hw
            clear hw
            by_cases hlt : k < a0.size
            · have hlt2 : k < a1.size := by omega
              have xa : ((a0[k].toNat : Nat) : Int) ≤ 255 := by have := a0[k].toNat_lt; omega
              have xb : ((a1[k].toNat : Nat) : Int) ≤ 255 := by have := a1[k].toNat_lt; omega
              have HU : Hid (upTo a0 a1 (k + 1) = (upTo a0 a1 k && (low (a0[k].toNat : Int) == low (a1[k].toNat : Int)))) := upTo_snoc a0 a1 k hlt hlt2
              rcases hb : (low (a0[k].toNat : Int) == low (a1[k].toNat : Int))
              · go_wp2
                go_quiet ((go_at_call 21; exact Calls.quiet_of_same (feq_any _ _ (by omega) (by omega) (by omega) (by omega) _)))
                go_wp2
                go_roundw
                case rel => exact ⟨k + 1, by omega, by go_num, by rw [HU.out, hb, Bool.and_false], drewN_more HW.out _⟩
                case measure => simp [intOf]; omega
              · go_wp2
                go_quiet ((go_at_call 21; exact Calls.quiet_of_same (feq_any _ _ (by omega) (by omega) (by omega) (by omega) _)))
                go_wp2
                go_roundw
                case rel => exact ⟨k + 1, by omega, by go_num, by rw [HU.out, hb, Bool.and_true], drewN_more HW.out _⟩
                case measure => simp [intOf]; omega
            · go_wp2_with (go_at_call 22; refine (zzefold_any _ _ _ w0 w1).mono ?_; rintro e wz ⟨rfl, n, rfl⟩)
              go_ret
              obtain ⟨m, rfl⟩ := HW.out
              refine ⟨ret_bool (by rw [upTo_end a0 a1 k (by omega) (by omega)]; simp), ?_⟩
              rw [World.drewN_drewN]
              exact grown_drewN _ _
      · have he' : ((a0.size : Int) == (a1.size : Int)) = false := by simp; omega
        have HE : Hid (efold a0 a1 = false) := efold_len a0 a1 he
        clear he
        go_enter Try.func8, Try.ntmps8
        go_wp2_with (first | (go_at_call 20; refine (bytes2_any _ _ _).mono ?_; rintro e w' ⟨q, rfl, rfl⟩; cases q) | (go_at_call 22; refine (zzefold_any _ _ _ w0 w1).mono ?_; rintro e w' ⟨rfl, n, rfl⟩))
        · go_ret
          exact ⟨rfl, Grown.refl _⟩
        · go_ret
          exact ⟨ret_bool (by rw [HE.out]; rfl), grown_drewN _ _⟩
    · go_enter Try.func8, Try.ntmps8
      go_wp2_with (go_at_call 20; refine (bytes2_any _ _ _).mono ?_; rintro e w' ⟨q, rfl, rfl⟩; cases q)
      all_goals go_ret
      all_goals exact ⟨rfl, Grown.refl _⟩
  · go_enter Try.func8, Try.ntmps8
    go_wp2_with (go_at_call 20; refine (bytes2_any _ _ _).mono ?_; rintro e w' ⟨q, rfl, rfl⟩; cases q)
    all_goals go_ret
    all_goals exact ⟨rfl, Grown.refl _⟩

end Go.Proofs.Qxb6603016a.fnEqualFoldASCIIMatchesModel
