/-
  The shared callees of the laws on equalFoldASCII: lowerASCII (31), equalFoldASCII (29), ZZEqualFoldASCII (22).
-/
import Derived.Test.Qxb6603016aRows
import Derived.WalkKit
import Derived.Deep.QuietTactic
import Derived.BigQuiet
namespace Go.Proofs.Qxb6603016a
open Go.RowKit
set_option linter.unusedVariables false

/-- An ASCII upper-case letter lowered; any other number as it is. -/
def low (n : Int) : Int := if 65 ≤ n ∧ n ≤ 90 then n + 32 else n
/-- The bytes of a string as numbers. -/
def nums (a : ByteArray) : List Int := a.data.toList.map fun c => (c.toNat : Int)
/-- Equal but for the case of ASCII letters. -/
def efold (a b : ByteArray) : Bool := decide ((nums a).map low = (nums b).map low)

theorem nums_length (a : ByteArray) : (nums a).length = a.size := by simp [nums]
theorem nums_get (a : ByteArray) (k : Nat) (h : k < a.size) : (nums a)[k]? = some (a[k].toNat : Int) := by
  unfold nums
  rw [List.getElem?_map, List.getElem?_eq_getElem (by simpa using h)]
  rfl

theorem low_any (n : Int) (h0 : 0 ≤ n) (h1 : n ≤ 255) (w : World) :
    Calls Try.prog 31 #[.int .u8 n] w fun e w' => e = .returned (.int .u8 (low n)) ∧ w' = w := by
  unfold low
  by_cases h2 : 65 ≤ n
  · by_cases h3 : n ≤ 90
    · rw [if_pos ⟨h2, h3⟩]
      go_enter Try.func31, Try.ntmps31
      go_wp2
      go_ret
      exact ⟨by go_num, rfl⟩
    · rw [if_neg (by omega)]
      go_enter Try.func31, Try.ntmps31
      go_wp2
      go_ret
      exact ⟨rfl, rfl⟩
  · rw [if_neg (by omega)]
    go_enter Try.func31, Try.ntmps31
    go_wp2
    go_ret
    exact ⟨rfl, rfl⟩

theorem efold_step (a b : ByteArray) (he : a.size = b.size) (h : ∀ j, (hj : j < a.size) → low (a[j].toNat : Int) = low ((b[j]'(by omega)).toNat : Int)) : efold a b = true := by
  unfold efold
  refine decide_eq_true (List.ext_getElem? fun j => ?_)
  rw [List.getElem?_map, List.getElem?_map]
  by_cases hj : j < a.size
  · rw [nums_get a j hj, nums_get b j (by omega)]
    simp [h j hj]
  · rw [List.getElem?_eq_none (by rw [nums_length]; omega), List.getElem?_eq_none (by rw [nums_length]; omega)]
theorem efold_len (a b : ByteArray) (he : a.size ≠ b.size) : efold a b = false := by
  unfold efold
  refine decide_eq_false fun h => he ?_
  have := congrArg List.length h
  simpa [nums_length] using this
theorem efold_parts (a b : ByteArray) (j : Nat) (hj : j < a.size) (hj' : j < b.size) (h : low (a[j].toNat : Int) ≠ low (b[j].toNat : Int)) : efold a b = false := by
  unfold efold
  refine decide_eq_false fun e => h ?_
  have e' := congrArg (fun l => l[j]?) e
  simp only [List.getElem?_map, nums_get a j hj, nums_get b j hj', Option.map_some, Option.some.injEq] at e'
  exact e'

theorem drewN_more {w wr : World} (h : ∃ n, wr = w.drewN n) (m : Nat) : ∃ n, wr.drewN m = w.drewN n := by
  obtain ⟨n, rfl⟩ := h
  exact ⟨n + m, World.drewN_drewN _ _ _⟩
theorem ret_bool {a b : Bool} (h : a = b) : Ending.returned (.bool a) = .returned (.bool b) := by rw [h]

set_option maxHeartbeats 400000 in
theorem efold_any (a b : ByteArray) (w : World) (ha : a.size ≤ maxLen) (hb : b.size ≤ maxLen) :
    Calls Try.prog 29 #[.string a, .string b] w fun e w' => e = .returned (.bool (efold a b)) ∧ ∃ n, w' = w.drewN n := by
  unfold maxLen at ha hb
  by_cases he : a.size = b.size
  · have h1 : a.size ≤ b.size := by omega
    have h2 : b.size ≤ a.size := by omega
    have HE : Hid (a.size = b.size) := he
    clear he
    go_enter Try.func29, Try.ntmps29
    go_wp2
    go_loopw [5] (fun i wr => ∃ k : Nat, k ≤ a.size ∧ i = .int .i64 k ∧ (∃ n, wr = w.drewN n) ∧ ∀ j, (hj : j < k) → (hk : k ≤ a.size) → low ((a[j]'(by omega)).toNat : Int) = low ((b[j]'(by omega)).toNat : Int)) (fun i _ => a.size - (intOf i).toNat)
    case atStart => exact ⟨0, Nat.zero_le _, rfl, ⟨0, rfl⟩, fun j hj => by omega⟩
    case round =>
      obtain ⟨k, hk, rfl, hw, hall⟩ := hrel
      have HW : Hid (∃ n, wr = w.drewN n) := hw
      clear hw
      have HA : Hid (∀ j, (hj : j < k) → (hk : k ≤ a.size) → low ((a[j]'(by omega)).toNat : Int) = low ((b[j]'(by omega)).toNat : Int)) := hall
      clear hall
      by_cases hlt : k < a.size
      · have hlt2 : k < b.size := by omega
        have xa : ((a[k].toNat : Nat) : Int) ≤ 255 := by have := a[k].toNat_lt; omega
        have xb : ((b[k].toNat : Nat) : Int) ≤ 255 := by have := b[k].toNat_lt; omega
        by_cases hq : low (a[k].toNat : Int) = low (b[k].toNat : Int)
        · have HQ : Hid (low (a[k].toNat : Int) = low (b[k].toNat : Int)) := hq
          have hq' : (low (a[k].toNat : Int) != low (b[k].toNat : Int)) = false := by simp [hq]
          clear hq
          go_wp2
          go_quiet ((go_at_call 31; exact Calls.quiet_of_same (low_any _ (by omega) (by omega) _)))
          go_wp2
          go_roundw
          case rel =>
            refine ⟨k + 1, by omega, by go_num, drewN_more HW.out _, fun j hj hk => ?_⟩
            by_cases e : j = k
            · subst e; exact HQ.out
            · exact HA.out j (by omega) (by omega)
          case measure => simp [intOf]; omega
        · have hq' : (low (a[k].toNat : Int) != low (b[k].toNat : Int)) = true := by simp [hq]
          go_wp2
          go_quiet ((go_at_call 31; exact Calls.quiet_of_same (low_any _ (by omega) (by omega) _)))
          go_wp2
          go_ret
          exact ⟨ret_bool (efold_parts a b k hlt hlt2 hq).symm, drewN_more HW.out _⟩
      · go_wp2
        go_ret
        exact ⟨ret_bool (efold_step a b HE.out fun j hj => HA.out j (by omega) (by omega)).symm, HW.out⟩
  · have he' : ((a.size : Int) != (b.size : Int)) = true := by simp; omega
    go_enter Try.func29, Try.ntmps29
    go_wp2
    go_ret
    exact ⟨ret_bool (efold_len a b he).symm, 0, rfl⟩

theorem zzefold_any (a b : ByteArray) (w : World) (ha : a.size ≤ maxLen) (hb : b.size ≤ maxLen) :
    Calls Try.prog 22 #[.string a, .string b] w fun e w' => e = .returned (.bool (efold a b)) ∧ ∃ n, w' = w.drewN n := by
  go_enter Try.func22, Try.ntmps22
  go_wp2_with (go_at_call 29; refine (efold_any a b _ ha hb).mono ?_; rintro e w' ⟨rfl, n, rfl⟩)
  go_ret
  exact ⟨rfl, n, rfl⟩

end Go.Proofs.Qxb6603016a
