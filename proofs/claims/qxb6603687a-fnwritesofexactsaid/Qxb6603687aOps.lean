/-
  Histories in memory, and the functions that only read one: opBytes (8), zzBytes_FnNewCausalOrderExact (24), zzBytes_FnNewCausalOrderRelabel (26).
-/
import Derived.Test.Qxb6603687aRows
import Derived.WalkKit
namespace Go.Proofs.Qxb6603687a
open Go.RowKit
set_option linter.unusedVariables false

/-- A history: n operations; of each its site, its kind, its variable, its value. -/
structure Hist where
  n : Nat
  s : Nat → Int
  o : Nat → Int
  v : Nat → Int
  x : Nat → ByteArray
/-- The history H lies in block b from offset off on. -/
structure OpsIn (w : World) (b off : Nat) (H : Hist) : Prop where
  c0 : ∀ k, k < H.n → w.cell? ⟨b, off + k * 4, none⟩ = some (.int .i64 (H.s k))
  c1 : ∀ k, k < H.n → w.cell? ⟨b, off + k * 4 + 1, none⟩ = some (.int .u8 (H.o k))
  c2 : ∀ k, k < H.n → w.cell? ⟨b, off + k * 4 + 2, none⟩ = some (.int .i64 (H.v k))
  c3 : ∀ k, k < H.n → w.cell? ⟨b, off + k * 4 + 3, none⟩ = some (.string (H.x k))
/-- The value v is a slice that reads as the history H: an empty one at whatever address, or one that lies in a block. -/
def IsOps (w : World) (v : Value) (H : Hist) : Prop :=
  (∃ ad cap, v = .slice ad 0 cap ∧ H.n = 0) ∨ (∃ b off cap, v = .slice (some ⟨b, off, none⟩) H.n cap ∧ OpsIn w b off H)
theorem IsOps.below {w w' : World} {v : Value} {H : Hist} {B : Nat} (h : IsOps w v H) (hb : Below B w w') (hv : ∀ b off n cap, v = .slice (some ⟨b, off, none⟩) n cap → b < B) : IsOps w' v H := by
  rcases h with h | ⟨b, off, cap, rfl, h⟩
  · exact .inl h
  · have hB := hv b off _ _ rfl
    exact .inr ⟨b, off, cap, rfl, ⟨fun k hk => (hb.cell hB).trans (h.c0 k hk), fun k hk => (hb.cell hB).trans (h.c1 k hk), fun k hk => (hb.cell hB).trans (h.c2 k hk), fun k hk => (hb.cell hB).trans (h.c3 k hk)⟩⟩

/-! ### opBytes: some number -/
set_option maxHeartbeats 400000 in
theorem opBytes_any (v : Value) (H : Hist) (w : World) (hn : H.n ≤ 1048576) (hin : IsOps w v H) :
    Calls Try.prog 8 #[v] w fun e w' => (∃ q : Int, e = .returned (.int .i64 q)) ∧ w = w' := by
  rcases hin with ⟨ad, cap, rfl, h0⟩ | ⟨b, off, cap, rfl, hin⟩
  · go_enter Try.func8, Try.ntmps8
    go_wp2
    refine wp_loop_rounds 1 ?_
    rw [rounds_succ]
    go_wp2
    go_ret
    exact ⟨⟨_, rfl⟩, rfl⟩
  · go_enter Try.func8, Try.ntmps8
    go_wp2
    go_loop [3, 4] (fun t i => ∃ k : Nat, k ≤ H.n ∧ i = .int .i64 k ∧ ∃ q : Int, t = .int .i64 q) (fun _ i => H.n - (intOf i).toNat)
    case atStart => exact ⟨0, Nat.zero_le _, rfl, 0, rfl⟩
    case round =>
      obtain ⟨k, hk, rfl, q, rfl⟩ := hrel
      by_cases hlt : k < H.n
      · have h3 := hin.c3 k hlt
        go_wp2
        · go_ret
          exact ⟨⟨_, rfl⟩, rfl⟩
        · go_round
          case rel => exact ⟨k + 1, by omega, by go_num, _, rfl⟩
          case measure => simp [intOf]; omega
      · go_wp2
        go_ret
        exact ⟨⟨_, rfl⟩, rfl⟩

/-! ### zzBytes: where it says yes, every value is short -/
def Short (H : Hist) (n : Nat) : Prop := ∀ k, k < n → (H.x k).size ≤ 1048576
/-- A yes means: few operations, each with a short value. -/
def SaysShort (H : Hist) (e : Ending) : Prop := ∃ q : Bool, e = .returned (.bool q) ∧ (q = true → H.n ≤ 1048576 ∧ Short H H.n)
theorem saysShort_no (H : Hist) {e : Ending} (h : e = .returned (.bool false)) : SaysShort H e := ⟨false, h, fun h => by simp at h⟩
theorem saysShort_yes (H : Hist) {e : Ending} (h : e = .returned (.bool true)) (h1 : H.n ≤ 1048576) (h2 : Short H H.n) : SaysShort H e := ⟨true, h, fun _ => ⟨h1, h2⟩⟩
set_option maxHeartbeats 400000 in
theorem bytes24_any (v : Value) (H : Hist) (w : World) (hn : H.n ≤ 9223372036854775807) (hv : ∀ k, k < H.n → (H.x k).size ≤ 9223372036854775807) (hin : IsOps w v H) :
    Calls Try.prog 24 #[v] w fun e w' => SaysShort H e ∧ w = w' := by
  rcases hin with ⟨ad, cap, rfl, h0⟩ | ⟨b, off, cap, rfl, hin⟩
  · go_enter Try.func24, Try.ntmps24
    go_wp2
    refine wp_loop_rounds 1 ?_
    rw [rounds_succ]
    go_wp2
    go_ret
    exact ⟨saysShort_yes H rfl (by omega) (fun k h => by omega), rfl⟩
  · by_cases hl : H.n ≤ 1048576
    · go_enter Try.func24, Try.ntmps24
      go_wp2
      go_loop [3, 4] (fun t i => ∃ k : Nat, k ≤ H.n ∧ i = .int .i64 k ∧ Short H k ∧ ∃ q : Int, t = .int .i64 q ∧ 0 ≤ q ∧ q ≤ 1048576) (fun _ i => H.n - (intOf i).toNat)
      case atStart => exact ⟨0, Nat.zero_le _, rfl, fun k h => by omega, _, rfl, by omega, by omega⟩
      case round =>
        obtain ⟨k, hk, rfl, hsh, q, rfl, hq0, hq1⟩ := hrel
        by_cases hlt : k < H.n
        · have h3 := hin.c3 k hlt
          have hs := hv k hlt
          by_cases hsz : (H.x k).size ≤ 1048576
          · go_wp2
            · go_ret
              exact ⟨saysShort_no H rfl, rfl⟩
            · have hle : q + ((H.x k).size : Int) ≤ 1048576 := by assumption
              go_round
              case rel => exact ⟨k + 1, by omega, by go_num, fun j h => by by_cases e : j = k; (subst e; exact hsz); exact hsh j (by omega), _, rfl, by omega, hle⟩
              case measure => simp [intOf]; omega
          · go_wp2
            go_ret
            exact ⟨saysShort_no H rfl, rfl⟩
        · go_wp2
          go_ret
          exact ⟨saysShort_yes H rfl hl (fun j h => hsh j (by omega)), rfl⟩
    · go_enter Try.func24, Try.ntmps24
      go_wp2
      go_ret
      exact ⟨saysShort_no H rfl, rfl⟩
set_option maxHeartbeats 400000 in
theorem bytes26_any (v : Value) (sk vk : Int) (H : Hist) (w : World) (hn : H.n ≤ 9223372036854775807) (hv : ∀ k, k < H.n → (H.x k).size ≤ 9223372036854775807) (hin : IsOps w v H) :
    Calls Try.prog 26 #[v, .int .i64 sk, .int .i64 vk] w fun e w' => SaysShort H e ∧ w = w' := by
  rcases hin with ⟨ad, cap, rfl, h0⟩ | ⟨b, off, cap, rfl, hin⟩
  · go_enter Try.func26, Try.ntmps26
    go_wp2
    refine wp_loop_rounds 1 ?_
    rw [rounds_succ]
    go_wp2
    go_ret
    exact ⟨saysShort_yes H rfl (by omega) (fun k h => by omega), rfl⟩
  · by_cases hl : H.n ≤ 1048576
    · go_enter Try.func26, Try.ntmps26
      go_wp2
      go_loop [7, 8] (fun t i => ∃ k : Nat, k ≤ H.n ∧ i = .int .i64 k ∧ Short H k ∧ ∃ q : Int, t = .int .i64 q ∧ 0 ≤ q ∧ q ≤ 1048576) (fun _ i => H.n - (intOf i).toNat)
      case atStart => exact ⟨0, Nat.zero_le _, rfl, fun k h => by omega, _, rfl, by omega, by omega⟩
      case round =>
        obtain ⟨k, hk, rfl, hsh, q, rfl, hq0, hq1⟩ := hrel
        by_cases hlt : k < H.n
        · have h3 := hin.c3 k hlt
          have hs := hv k hlt
          by_cases hsz : (H.x k).size ≤ 1048576
          · go_wp2
            · go_ret
              exact ⟨saysShort_no H rfl, rfl⟩
            · have hle : q + ((H.x k).size : Int) ≤ 1048576 := by assumption
              go_round
              case rel => exact ⟨k + 1, by omega, by go_num, fun j h => by by_cases e : j = k; (subst e; exact hsz); exact hsh j (by omega), _, rfl, by omega, hle⟩
              case measure => simp [intOf]; omega
          · go_wp2
            go_ret
            exact ⟨saysShort_no H rfl, rfl⟩
        · go_wp2
          go_ret
          exact ⟨saysShort_yes H rfl hl (fun j h => hsh j (by omega)), rfl⟩
    · go_enter Try.func26, Try.ntmps26
      go_wp2
      go_ret
      exact ⟨saysShort_no H rfl, rfl⟩
end Go.Proofs.Qxb6603687a
