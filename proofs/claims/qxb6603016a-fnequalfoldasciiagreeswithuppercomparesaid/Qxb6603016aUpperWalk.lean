/-
  FnEqualFoldASCIIAgreesWithUpperCompare: the callees and the walk of the law.
-/
import Derived.Test.Qxb6603016aFold
import Derived.WalkKit
import Derived.Deep.OwnRows
import Derived.Laws.IdiomStrings
namespace Go.Proofs.Qxb6603016a.fnEqualFoldASCIIAgreesWithUpperCompare
open Go.RowKit
set_option linter.unusedVariables false

/-- An ASCII lower-case letter raised; any other number as it is. -/
def upI (n : Int) : Int := if 97 ≤ n ∧ n ≤ 122 then n - 32 else n
def upB (c : UInt8) : UInt8 := if 97 ≤ c.toNat ∧ c.toNat ≤ 122 then c - 32 else c
def upper (s : ByteArray) : ByteArray := ⟨(s.data.toList.map upB).toArray⟩
theorem upB_fin : ∀ i : Fin 256, ((upB (UInt8.ofNat i.val)).toNat : Int) = upI (i.val : Int) := by decide +kernel
theorem upB_toNat (c : UInt8) : ((upB c).toNat : Int) = upI (c.toNat : Int) := by
  have := upB_fin ⟨c.toNat, c.toNat_lt⟩
  simpa using this

theorem upI_cases (n : Int) : (97 ≤ n ∧ n ≤ 122 ∧ upI n = n - 32) ∨ (¬ (97 ≤ n ∧ n ≤ 122) ∧ upI n = n) := by
  unfold upI
  by_cases h : 97 ≤ n ∧ n ≤ 122
  · exact .inl ⟨h.1, h.2, if_pos h⟩
  · exact .inr ⟨h, if_neg h⟩
def bAt (s : ByteArray) (j : Nat) : Int := ((nums s)[j]?).getD 0
theorem bAt_eq (s : ByteArray) (j : Nat) (h : j < s.size) : bAt s j = (s[j].toNat : Int) := by unfold bAt; rw [nums_get s j h]; rfl
/-- The first k cells of C hold the first k bytes of s, raised. -/
structure UpRel (s : ByteArray) (C : Array Value) (k : Nat) : Prop where
  size : C.size = s.size
  at_ : ∀ j, j < k → C[j]? = some (.int .u8 (upI (bAt s j)))
theorem upRel_start (s : ByteArray) : UpRel s (madeCells #[.int .u8 0] s.size) 0 := ⟨size_madeCells _ _, fun j hj => by omega⟩
theorem UpRel.step {s : ByteArray} {C : Array Value} {k : Nat} (h : UpRel s C k) (hk : k < s.size) {n : Int} (hn : upI (s[k].toNat : Int) = n) : UpRel s (C.setIfInBounds k (.int .u8 n)) (k + 1) := by
  refine ⟨by simp [h.size], fun j hj => ?_⟩
  by_cases e : j = k
  · subst e
    rw [Array.getElem?_setIfInBounds_self_of_lt (by rw [h.size]; exact hk), bAt_eq s j hk, hn]
  · rw [Array.getElem?_setIfInBounds_ne (by omega)]
    exact h.at_ j (by omega)
theorem UpRel.convert {s : ByteArray} {C : Array Value} {k : Nat} {w : World} (h : UpRel s C k) (hk : s.size ≤ k) :
    (convert 29 9 (.slice (some ⟨w.heap.size, 0, none⟩) s.size s.size)).run Try.prog (w.alloc (.cells C 5)) = .ok (.string (upper s)) (w.alloc (.cells C 5)) := by
  have hl : (s.data.toList.map upB).length = s.size := by simp
  have := run_convert_bytes_back (P := Try.prog) (w.alloc (.cells C 5)) 29 9 5 ⟨w.heap.size, 0, none⟩ s.size (s.data.toList.map upB) Try.underlying29 Try.underlying5 Try.underlying9 (fun j hj => by
    rw [hl] at hj
    have e : ((⟨w.heap.size, 0, none⟩ : Addr).add j) = ⟨w.heap.size, j, none⟩ := by simp [Addr.add]; omega
    rw [e, World.cell?_alloc_mark, h.at_ j (by omega), bAt_eq s j hj]
    simp only [List.getElem_map, upB_toNat]
    rfl)
  rw [hl] at this
  exact this
theorem info5 : (Try.prog.info? 5).map (fun i => (i.zero, i.size, i.bytes)) = some (some (.int .u8 0), 1, 1) := by kernel_rfl

set_option maxHeartbeats 400000 in
theorem upper_any (s : ByteArray) (w : World) (hs : s.size ≤ 65536) :
    Calls Try.prog 24 #[.string s] w fun e w' => e = .returned (.string (upper s)) ∧ ∃ C, w' = w.alloc (.cells C 5) := by
  have hmk := run_make_row' (P := Try.prog) 29 5 (.int .u8 0) 1 Try.underlying29 info5 rfl .i64 .i64 s.size (by omega) (by omega) w
  go_enter Try.func24, Try.ntmps24
  go_wp2
  clear hmk
  go_loopw [4] (fun i wr => ∃ k : Nat, k ≤ s.size ∧ i = .int .i64 k ∧ ∃ C : Array Value, wr = w.alloc (.cells C 5) ∧ UpRel s C k) (fun i _ => s.size - (intOf i).toNat)
  case atStart => exact ⟨0, Nat.zero_le _, rfl, _, rfl, upRel_start s⟩
  case round =>
    obtain ⟨k, hk, rfl, C, rfl, hC⟩ := hrel
    by_cases hlt : k < s.size
    · have xs : ((s[k].toNat : Nat) : Int) ≤ 255 := by have := s[k].toNat_lt; omega
      obtain ⟨old, hold⟩ : ∃ old, C[k]? = some old := ⟨C[k]'(by rw [hC.1]; exact hlt), by simp⟩
      by_cases h1 : 97 ≤ (s[k].toNat : Int)
      · by_cases h2 : (s[k].toNat : Int) ≤ 122
        · go_wp2
          go_roundw
          case rel => exact ⟨k + 1, by omega, by go_num, _, rfl, hC.step hlt (by simp [upI]; omega)⟩
          case measure => simp [intOf]; omega
        · go_wp2
          go_roundw
          case rel => exact ⟨k + 1, by omega, by go_num, _, rfl, hC.step hlt (by simp [upI]; omega)⟩
          case measure => simp [intOf]; omega
      · go_wp2
        go_roundw
        case rel => exact ⟨k + 1, by omega, by go_num, _, rfl, hC.step hlt (by simp [upI]; omega)⟩
        case measure => simp [intOf]; omega
    · have hcv := hC.convert (w := w) (by omega)
      go_wp2
      go_ret
      exact ⟨rfl, _, rfl⟩

/-! ### Plain: lowered alike just if raised alike -/
theorem low_up (n : Int) : low (upI n) = low n := by unfold low upI; repeat' split <;> omega
theorem up_low (n : Int) : upI (low n) = upI n := by unfold low upI; repeat' split <;> omega
theorem maps_iff (l m : List Int) : l.map low = m.map low ↔ l.map upI = m.map upI := by
  constructor
  · intro h
    have := congrArg (List.map upI) h
    simpa [List.map_map, Function.comp_def, up_low] using this
  · intro h
    have := congrArg (List.map low) h
    simpa [List.map_map, Function.comp_def, low_up] using this
theorem nums_upper (s : ByteArray) : nums (upper s) = (nums s).map upI := by
  simp [nums, upper, Function.comp_def, upB_toNat]
theorem nums_inj {a b : ByteArray} (h : nums a = nums b) : a.data.toList = b.data.toList := by
  unfold nums at h
  exact (List.map_inj_right (fun x y e => UInt8.toNat_inj.1 (by omega))).1 h
theorem agree (a b : ByteArray) : (efold a b == ((upper a).toList == (upper b).toList)) = true := by
  have e : efold a b = ((upper a).toList == (upper b).toList) := by
    rw [Bool.eq_iff_iff, beq_iff_eq, ByteArray.toList_eq, ByteArray.toList_eq]
    unfold efold
    rw [decide_eq_true_iff, maps_iff, ← nums_upper, ← nums_upper]
    exact ⟨nums_inj, fun h => by unfold nums; rw [h]⟩
  rw [e]
  simp

theorem bytes2_any (a b : ByteArray) (w : World) :
    Calls Try.prog 23 #[.string a, .string b] w fun e w' => ∃ q, e = .returned (.bool q) ∧ w' = w := by
  go_enter Try.func23, Try.ntmps23
  go_wp2
  all_goals go_ret
  all_goals exact ⟨_, rfl, rfl⟩
theorem grown_drewN (w : World) (n : Nat) : Grown w (w.drewN n) := by
  induction n with
  | zero => exact Grown.refl _
  | succ n ih => exact ih.drew

/-! ### The walk: the law returns true; the world has drawn, and two new blocks lie behind it. -/
set_option maxHeartbeats 400000 in
theorem walk (a0 : ByteArray) (a1 : ByteArray) (w0 : a0.size ≤ maxLen) (w1 : a1.size ≤ maxLen) (w : World) :
    Calls Try.prog 9 #[.string a0, .string a1] w fun e w' => e = .returned (.bool true) ∧ Grown w w' := by
  by_cases h0 : a0.size ≤ 65536
  · by_cases h1 : a1.size ≤ 65536
    · have ha := agree a0 a1
      go_enter Try.func9, Try.ntmps9
      go_wp2_with (first | (go_at_call 23; refine (bytes2_any _ _ _).mono ?_; rintro e w' ⟨q, rfl, rfl⟩; cases q) | (go_at_call 22; refine (zzefold_any _ _ _ w0 w1).mono ?_; rintro e w' ⟨rfl, n, rfl⟩) | (go_at_call 24; refine (upper_any _ _ (by assumption)).mono ?_; rintro e w' ⟨rfl, C, rfl⟩))
      all_goals go_ret
      · exact ⟨rfl, Grown.refl _⟩
      · exact ⟨rfl, ((grown_drewN _ _).alloc _ _).alloc _ _⟩
    · go_enter Try.func9, Try.ntmps9
      go_wp2_with (go_at_call 23; refine (bytes2_any _ _ _).mono ?_; rintro e w' ⟨q, rfl, rfl⟩; cases q)
      all_goals go_ret
      all_goals exact ⟨rfl, Grown.refl _⟩
  · go_enter Try.func9, Try.ntmps9
    go_wp2_with (go_at_call 23; refine (bytes2_any _ _ _).mono ?_; rintro e w' ⟨q, rfl, rfl⟩; cases q)
    all_goals go_ret
    all_goals exact ⟨rfl, Grown.refl _⟩

end Go.Proofs.Qxb6603016a.fnEqualFoldASCIIAgreesWithUpperCompare
