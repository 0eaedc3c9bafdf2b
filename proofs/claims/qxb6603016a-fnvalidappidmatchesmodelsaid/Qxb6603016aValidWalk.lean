/-
  FnValidAppIDMatchesModel: the callees and the walk of the law.
-/
import Derived.Test.Qxb6603016aFold
import Derived.WalkKit
namespace Go.Proofs.Qxb6603016a.fnValidAppIDMatchesModel
open Go.RowKit
set_option linter.unusedVariables false

/-! ### Plain: no Go in sight -/
/-- A byte that an app id may hold. -/
def okB (n : Int) : Bool := decide (32 < n) && (decide (n ≠ 127) && decide (n ≠ 58))
def allOk (l : List Int) : Bool := l.all okB
def valid (a : ByteArray) : Bool := decide (0 < a.size) && allOk (nums a)
/-- The 93 visible characters but the colon. -/
def vis : ByteArray := { data := ([33, 34, 35, 36, 37, 38, 39, 40, 41, 42, 43, 44, 45, 46, 47, 48, 49, 50, 51, 52, 53, 54, 55, 56, 57, 59, 60, 61, 62, 63, 64, 65, 66, 67, 68, 69, 70, 71, 72, 73, 74, 75, 76, 77, 78, 79].append [80, 81, 82, 83, 84, 85, 86, 87, 88, 89, 90, 91, 92, 93, 94, 95, 96, 97, 98, 99, 100, 101, 102, 103, 104, 105, 106, 107, 108, 109, 110, 111, 112, 113, 114, 115, 116, 117, 118, 119, 120, 121, 122, 123, 124, 125, 126]).toArray }
def isIn (l : List Int) (c : Int) : Bool := l.any fun x => x == c
def appB (c : Int) : Bool := decide (128 ≤ c) || isIn (nums vis) c

theorem appB_fin : ∀ i : Fin 256, appB (i.val : Int) = okB (i.val : Int) := by decide +kernel
theorem appB_eq (c : Int) (h0 : 0 ≤ c) (h1 : c ≤ 255) : appB c = okB c := by
  have := appB_fin ⟨c.toNat, by omega⟩
  simpa [Int.toNat_of_nonneg h0] using this
theorem vis_size : vis.size ≤ 100 := by decide +kernel

theorem nums_take_snoc (s : ByteArray) (k : Nat) (h : k < s.size) : (nums s).take (k + 1) = (nums s).take k ++ [(s[k].toNat : Int)] := by
  rw [List.take_add_one, nums_get s k h]
  rfl
theorem allOk_snoc (l : List Int) (c : Int) : allOk (l ++ [c]) = (allOk l && okB c) := by simp [allOk]
theorem isIn_snoc (l : List Int) (x c : Int) : isIn (l ++ [x]) c = (isIn l c || x == c) := by simp [isIn]
theorem nums_take_all (s : ByteArray) (k : Nat) (h : s.size ≤ k) : (nums s).take k = nums s := List.take_of_length_le (by rw [nums_length]; exact h)
theorem allOk_parts (s : ByteArray) (k : Nat) (h : k < s.size) (hb : okB (s[k].toNat : Int) = false) : allOk (nums s) = false := by
  have hm : (s[k].toNat : Int) ∈ nums s := List.mem_of_getElem? (nums_get s k h)
  unfold allOk
  rw [List.all_eq_false]
  exact ⟨_, hm, by simp [hb]⟩
theorem isIn_hit (s : ByteArray) (c : Int) (k : Nat) (h : k < s.size) (hb : (s[k].toNat : Int) = c) : isIn (nums s) c = true := by
  have hm : (s[k].toNat : Int) ∈ nums s := List.mem_of_getElem? (nums_get s k h)
  unfold isIn
  rw [List.any_eq_true]
  exact ⟨_, hm, by simp [hb]⟩

/-! ### The callees -/
set_option maxHeartbeats 400000 in
theorem in_any (c : Int) (s : ByteArray) (w : World) (hs : s.size ≤ 9223372036854775807) :
    Calls Try.prog 26 #[.int .u8 c, .string s] w fun e w' => e = .returned (.bool (isIn (nums s) c)) ∧ w' = w := by
  go_enter Try.func26, Try.ntmps26
  go_wp2
  go_loop [5] (fun i => ∃ k : Nat, k ≤ s.size ∧ i = .int .i64 k ∧ isIn ((nums s).take k) c = false) (fun i => s.size - (intOf i).toNat)
  case atStart => exact ⟨0, Nat.zero_le _, rfl, rfl⟩
  case round =>
    obtain ⟨k, hk, rfl, hn⟩ := hrel
    have HN : Hid (isIn ((nums s).take k) c = false) := hn
    clear hn
    by_cases hlt : k < s.size
    · by_cases hq : (s[k].toNat : Int) = c
      · have hq' : ((s[k].toNat : Int) == c) = true := by simp [hq]
        have HQ : Hid ((s[k].toNat : Int) = c) := hq
        clear hq
        go_wp2
        go_ret
        exact ⟨ret_bool (isIn_hit s c k hlt HQ.out).symm, rfl⟩
      · have hq' : ((s[k].toNat : Int) == c) = false := by simp [hq]
        have HQ : Hid (((s[k].toNat : Int) == c) = false) := hq'
        clear hq
        go_wp2
        go_round
        case rel => exact ⟨k + 1, by omega, by go_num, by rw [nums_take_snoc s k hlt, isIn_snoc, HN.out, HQ.out]; rfl⟩
        case measure => simp [intOf]; omega
    · go_wp2
      go_ret
      exact ⟨ret_bool (by rw [← HN.out, nums_take_all s k (by omega)]), rfl⟩

theorem appB_any (c : Int) (h0 : 0 ≤ c) (h1 : c ≤ 255) (w : World) :
    Calls Try.prog 12 #[.int .u8 c] w fun e w' => e = .returned (.bool (okB c)) ∧ w' = w := by
  rw [← appB_eq c h0 h1]
  by_cases h : 128 ≤ c
  · have e : appB c = true := by simp [appB, h]
    rw [e]
    clear e
    go_enter Try.func12, Try.ntmps12
    go_wp2
    go_ret
    exact ⟨rfl, rfl⟩
  · have e : appB c = isIn (nums vis) c := by simp [appB]; omega
    rw [e]
    clear e
    go_enter Try.func12, Try.ntmps12
    go_wp2_with (go_at_call 26; refine (in_any c vis _ (Nat.le_trans vis_size (by omega))).mono ?_; rintro e w' ⟨rfl, rfl⟩)
    go_ret
    exact ⟨rfl, rfl⟩

theorem empty_iff (s : ByteArray) : s.toList.isEmpty = decide (s.size = 0) := by
  rw [ByteArray.toList_eq]
  show s.data.toList.isEmpty = decide (s.data.size = 0)
  rw [← Array.length_toList]
  cases s.data.toList <;> simp
set_option maxHeartbeats 400000 in
theorem valid_any (s : ByteArray) (w : World) (hs : s.size ≤ 9223372036854775807) :
    Calls Try.prog 27 #[.string s] w fun e w' => e = .returned (.bool (valid s)) ∧ w' = w := by
  by_cases h0 : 0 < s.size
  · have he : s.toList.isEmpty = false := by rw [empty_iff]; exact decide_eq_false (by omega)
    have hv : Hid (valid s = allOk (nums s)) := by simp [Hid, valid, h0]
    go_enter Try.func27, Try.ntmps27
    go_wp2
    go_loop [3] (fun i => ∃ k : Nat, k ≤ s.size ∧ i = .int .i64 k ∧ allOk ((nums s).take k) = true) (fun i => s.size - (intOf i).toNat)
    case atStart => exact ⟨0, Nat.zero_le _, rfl, rfl⟩
    case round =>
      obtain ⟨k, hk, rfl, hn⟩ := hrel
      have HN : Hid (allOk ((nums s).take k) = true) := hn
      clear hn
      by_cases hlt : k < s.size
      · have xs : ((s[k].toNat : Nat) : Int) ≤ 255 := by have := s[k].toNat_lt; omega
        by_cases h1 : (s[k].toNat : Int) ≤ 32
        · have hb : Hid (okB (s[k].toNat : Int) = false) := by simp [Hid, okB]; omega
          go_wp2
          go_ret
          exact ⟨ret_bool (by rw [hv.out, allOk_parts s k hlt hb.out]), rfl⟩
        · by_cases h2 : (s[k].toNat : Int) = 127
          · have hb : Hid (okB (s[k].toNat : Int) = false) := by simp [Hid, okB]; omega
            have h2' : ((s[k].toNat : Int) == 127) = true := by simp [h2]
            clear h2
            go_wp2
            go_ret
            exact ⟨ret_bool (by rw [hv.out, allOk_parts s k hlt hb.out]), rfl⟩
          · have h2' : ((s[k].toNat : Int) == 127) = false := by simp; omega
            by_cases h3 : (s[k].toNat : Int) = 58
            · have hb : Hid (okB (s[k].toNat : Int) = false) := by simp [Hid, okB]; omega
              have h3' : ((s[k].toNat : Int) == 58) = true := by simp [h3]
              clear h3
              go_wp2
              go_ret
              exact ⟨ret_bool (by rw [hv.out, allOk_parts s k hlt hb.out]), rfl⟩
            · have hb : Hid (okB (s[k].toNat : Int) = true) := by simp [Hid, okB]; omega
              have h3' : ((s[k].toNat : Int) == 58) = false := by simp; omega
              clear h2 h3
              go_wp2
              go_round
              case rel => exact ⟨k + 1, by omega, by go_num, by rw [nums_take_snoc s k hlt, allOk_snoc, HN.out, hb.out]; rfl⟩
              case measure => simp [intOf]; omega
      · go_wp2
        go_ret
        exact ⟨ret_bool (by rw [hv.out, ← HN.out, nums_take_all s k (by omega)]), rfl⟩
  · have he : s.toList.isEmpty = true := by rw [empty_iff]; exact decide_eq_true (by omega)
    have hv : Hid (valid s = false) := by simp [Hid, valid, h0]
    go_enter Try.func27, Try.ntmps27
    go_wp2
    go_ret
    exact ⟨ret_bool hv.out.symm, rfl⟩

theorem zzvalid_any (s : ByteArray) (w : World) (hs : s.size ≤ 9223372036854775807) :
    Calls Try.prog 13 #[.string s] w fun e w' => e = .returned (.bool (valid s)) ∧ w' = w := by
  go_enter Try.func13, Try.ntmps13
  go_wp2_with (go_at_call 27; refine (valid_any s _ hs).mono ?_; rintro e w' ⟨rfl, rfl⟩)
  go_ret
  exact ⟨rfl, rfl⟩

theorem bytes1_any (a : ByteArray) (w : World) :
    Calls Try.prog 11 #[.string a] w fun e w' => ∃ q, e = .returned (.bool q) ∧ w' = w := by
  go_enter Try.func11, Try.ntmps11
  go_wp2
  all_goals go_ret
  all_goals exact ⟨_, rfl, rfl⟩

/-! ### The walk: the law returns true; the world stands. -/
def wantB (s : ByteArray) (k : Nat) : Bool := decide (0 < s.size) && allOk ((nums s).take k)
theorem wantB_snoc (s : ByteArray) (k : Nat) (h : k < s.size) : wantB s (k + 1) = (wantB s k && okB (s[k].toNat : Int)) := by
  unfold wantB
  rw [nums_take_snoc s k h, allOk_snoc, Bool.and_assoc]
theorem wantB_end (s : ByteArray) (k : Nat) (h : s.size ≤ k) : wantB s k = valid s := by
  unfold wantB valid
  rw [nums_take_all s k h]
theorem wantB_start (s : ByteArray) : wantB s 0 = decide (0 < s.size) := by simp [wantB, allOk]

set_option maxHeartbeats 400000 in
theorem walk (a0 : ByteArray) (w0 : a0.size ≤ maxLen) (w : World) :
    Calls Try.prog 3 #[.string a0] w fun e w' => e = .returned (.bool true) ∧ Grown w w' := by
  unfold maxLen at w0
  by_cases h0 : a0.size ≤ 65536
  · go_enter Try.func3, Try.ntmps3
    go_wp2_with (first | (go_at_call 11; refine (bytes1_any _ _).mono ?_; rintro e w' ⟨q, rfl, rfl⟩; cases q))
    · go_ret
      exact ⟨rfl, Grown.refl _⟩
    · go_loop [3, 4] (fun t i => ∃ k : Nat, k ≤ a0.size ∧ i = .int .i64 k ∧ t = .bool (wantB a0 k)) (fun _ i => a0.size - (intOf i).toNat)
      case atStart => exact ⟨0, Nat.zero_le _, rfl, by rw [wantB_start]⟩
      case round =>
        obtain ⟨k, hk, rfl, rfl⟩ := hrel
        by_cases hlt : k < a0.size
        · have xs : ((a0[k].toNat : Nat) : Int) ≤ 255 := by have := a0[k].toNat_lt; omega
          have HW : Hid (wantB a0 (k + 1) = (wantB a0 k && okB (a0[k].toNat : Int))) := wantB_snoc a0 k hlt
          rcases hb : okB (a0[k].toNat : Int)
          · go_wp2_with (go_at_call 12; refine (appB_any _ (by omega) (by omega) _).mono ?_; rintro e w' ⟨rfl, rfl⟩)
            go_round
            case rel => exact ⟨k + 1, by omega, by go_num, by rw [HW.out, hb, Bool.and_false]⟩
            case measure => simp [intOf]; omega
          · go_wp2_with (go_at_call 12; refine (appB_any _ (by omega) (by omega) _).mono ?_; rintro e w' ⟨rfl, rfl⟩)
            go_round
            case rel => exact ⟨k + 1, by omega, by go_num, by rw [HW.out, hb, Bool.and_true]⟩
            case measure => simp [intOf]; omega
        · go_wp2_with (go_at_call 13; refine (zzvalid_any _ _ (by omega)).mono ?_; rintro e w' ⟨rfl, rfl⟩)
          go_ret
          exact ⟨ret_bool (by rw [wantB_end a0 k (by omega)]; simp), Grown.refl _⟩
  · go_enter Try.func3, Try.ntmps3
    go_wp2_with (first | (go_at_call 11; refine (bytes1_any _ _).mono ?_; rintro e w' ⟨q, rfl, rfl⟩; cases q))
    all_goals go_ret
    all_goals exact ⟨rfl, Grown.refl _⟩

end Go.Proofs.Qxb6603016a.fnValidAppIDMatchesModel
