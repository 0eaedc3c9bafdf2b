/-
  FnWritesOfExact's small functions: zzBytes (7), sitesCover (9), copyI32 (11).
-/
import Derived.Test.Qxb6603687aWd
namespace Go.Proofs.Qxb6603687a
open Go.RowKit Go.Maps
set_option linter.unusedVariables false

/-- Operation k of a history that lies anywhere. -/
theorem IsOps.op {w : World} {ad : Option Addr} {cap : Nat} {H : Hist} (h : IsOps w (.slice ad H.n cap) H) {k : Nat} (hk : k < H.n) : ∃ b off, ad = some ⟨b, off, none⟩ ∧ b < w.heap.size ∧ w.cell? ⟨b, off + k * 4, none⟩ = some (.int .i64 (H.s k)) ∧ w.cell? ⟨b, off + k * 4 + 1, none⟩ = some (.int .u8 (H.o k)) ∧ w.cell? ⟨b, off + k * 4 + 2, none⟩ = some (.int .i64 (H.v k)) ∧ w.cell? ⟨b, off + k * 4 + 3, none⟩ = some (.string (H.x k)) := by
  rcases h with ⟨_, _, _, e⟩ | ⟨b, off, c, e, h⟩
  · omega
  · simp at e
    exact ⟨b, off, e.1, cell_lt (h.c0 k hk), h.c0 k hk, h.c1 k hk, h.c2 k hk, h.c3 k hk⟩

/-! ### zzBytes: some Boolean -/
def SomeBool (e : Ending) : Prop := ∃ q : Bool, e = .returned (.bool q)
set_option maxHeartbeats 400000 in
theorem bytes7_any (ad sd : Option Addr) (cap n sc : Nat) (H : Hist) (w : World) (hn : H.n ≤ 9223372036854775807) (hs : n ≤ 9223372036854775807) (hv : ∀ k, k < H.n → (H.x k).size ≤ 9223372036854775807) (hin : IsOps w (.slice ad H.n cap) H) :
    Calls Try.prog 7 #[.slice ad H.n cap, .slice sd n sc] w fun e w' => SomeBool e ∧ w = w' := by
  by_cases hl : H.n ≤ 1048576
  · go_enter Try.func7, Try.ntmps7
    go_wp2
    go_loop [5, 6] (fun t i => ∃ k : Nat, k ≤ H.n ∧ i = .int .i64 k ∧ ∃ q : Int, t = .int .i64 q ∧ 0 ≤ q ∧ q ≤ 1048576) (fun _ i => H.n - (intOf i).toNat)
    case atStart => exact ⟨0, Nat.zero_le _, rfl, _, rfl, by omega, by omega⟩
    case round =>
      obtain ⟨k, hk, rfl, q, rfl, hq0, hq1⟩ := hrel
      by_cases hlt : k < H.n
      · obtain ⟨b, off, hae, hlb, c0, c1, c2, h3⟩ := hin.op hlt
        cases hae
        have hsz := hv k hlt
        by_cases hs1 : (H.x k).size ≤ 1048576
        · go_wp2
          · go_ret
            exact ⟨⟨_, rfl⟩, rfl⟩
          · have hle : q + ((H.x k).size : Int) ≤ 1048576 := by assumption
            go_round
            case rel => exact ⟨k + 1, by omega, by go_num, _, rfl, by omega, hle⟩
            case measure => simp [intOf]; omega
        · go_wp2
          go_ret
          exact ⟨⟨_, rfl⟩, rfl⟩
      · by_cases hs2 : n ≤ 1048576
        · go_wp2
          all_goals go_ret
          all_goals exact ⟨⟨_, rfl⟩, rfl⟩
        · go_wp2
          all_goals go_ret
          all_goals exact ⟨⟨_, rfl⟩, rfl⟩
  · go_enter Try.func7, Try.ntmps7
    go_wp2
    go_ret
    exact ⟨⟨_, rfl⟩, rfl⟩

/-! ### sitesCover -/
def Covered (H : Hist) (n : Nat) : Prop := ∀ i, n ≤ i → i < H.n → H.o i ≠ 119
def SaysCovered (H : Hist) (n : Nat) (e : Ending) : Prop := ∃ q : Bool, e = .returned (.bool q) ∧ (q = true → Covered H n)
set_option maxHeartbeats 400000 in
theorem cover_any (ad sd : Option Addr) (cap n sc : Nat) (H : Hist) (w : World) (hn : H.n ≤ 4096) (hs : n ≤ 65536) (hin : IsOps w (.slice ad H.n cap) H) :
    Calls Try.prog 9 #[.slice ad H.n cap, .slice sd n sc] w fun e w' => SaysCovered H n e ∧ w = w' := by
  go_enter Try.func9, Try.ntmps9
  go_wp2
  go_loop [5] (fun i => ∃ k : Nat, k ≤ 65536 ∧ n ≤ k ∧ i = .int .i64 k ∧ ∀ i, n ≤ i → i < k → i < H.n → H.o i ≠ 119) (fun i => H.n - (intOf i).toNat)
  case atStart => exact ⟨n, hs, Nat.le_refl _, rfl, fun i h1 h2 => by omega⟩
  case round =>
    obtain ⟨k, hk, hkn, rfl, hc⟩ := hrel
    have HC : Hid (∀ i, n ≤ i → i < k → i < H.n → H.o i ≠ 119) := hc
    clear hc
    by_cases hlt : k < H.n
    · obtain ⟨b, off, hae, hlb, c0, c1, c2, c3⟩ := hin.op hlt
      cases hae
      by_cases ho : H.o k = 119
      · have ho' : (H.o k == 119) = true := by simp [ho]
        clear ho
        go_wp2
        go_ret
        exact ⟨⟨false, rfl, fun h => by simp at h⟩, rfl⟩
      · have ho' : (H.o k == 119) = false := by simp [ho]
        go_wp2
        go_round
        case rel => exact ⟨k + 1, by omega, by omega, by go_num, fun i h1 h2 h3 => by by_cases e : i = k; (subst e; exact ho); exact HC.out i h1 (by omega) h3⟩
        case measure => simp [intOf]; omega
    · go_wp2
      go_ret
      exact ⟨⟨true, rfl, fun _ i h1 h2 => HC.out i h1 (by omega) h2⟩, rfl⟩

/-! ### copyI32 -/
theorem info21w : (Try.prog.info? 21).map (fun i => (i.zero, i.size, i.bytes)) = some (some (.int .i32 0), 1, 4) := by kernel_rfl
theorem run_mkS (n : Nat) (hn : n ≤ 1048576) (w : World) : (Instr.makeSlice 23 (.int .i64 (n : Int)) (.int .i64 (n : Int))).run Try.prog w = .ok (.slice (some ⟨w.heap.size, 0, none⟩) n n) (w.alloc (.cells (zeros .i32 n) 21)) := by
  have := run_mk (P := Try.prog) 23 21 _ 1 4 Try.underlying23 info21w n (by omega) (by omega) w
  rw [Nat.mul_one] at this
  exact this
set_option maxHeartbeats 400000 in
theorem copyI32_any (ad : Option Addr) (n cap : Nat) (f : Nat → Int) (w : World) (hn : n ≤ 65536) (hin : Ints w ad .i32 n f) :
    Calls Try.prog 11 #[.slice ad n cap] w fun e w' => CopiedI .i32 n f w e w' := by
  have hnil := fun w => Lib.run_eql_slice_nil (P := Try.prog) w 23 21 ad n cap 0 0 Try.underlying23
  have hmk := run_mkS n (by omega) w
  cases ad with
  | none =>
    have h0 := hin.nil
    subst h0
    go_enter Try.func11, Try.ntmps11
    go_wp2
    go_ret
    exact ⟨none, rfl, Below.refl _ _, .inl rfl⟩
  | some a =>
    go_enter Try.func11, Try.ntmps11
    go_wp2
    clear hmk hnil
    obtain ⟨N, w1, hN, hw1, hb1, hr1⟩ : ∃ N w1, w.heap.size = N ∧ w.alloc (.cells (zeros .i32 n) 21) = w1 ∧ Below w.heap.size w w1 ∧ RowFn w1 N 21 .i32 n (upTo f 0) := ⟨_, _, rfl, rfl, (Below.refl _ _).alloc (Nat.le_refl _) _, rowFn_new0 _ _ _ _ _⟩
    rw [hw1, hN]
    have hNl : w.heap.size ≤ N := by omega
    clear hw1
    go_loopw [4] (fun i wr => ∃ k : Nat, k ≤ n ∧ i = .int .i64 k ∧ Below w.heap.size w wr ∧ RowFn wr N 21 .i32 n (upTo f k)) (fun i _ => n - (intOf i).toNat)
    case atStart => exact ⟨0, Nat.zero_le _, rfl, hb1, hr1⟩
    case round =>
      clear hb1 hr1
      obtain ⟨k, hk, rfl, hB, hr⟩ := hrel
      by_cases hlt : k < n
      · obtain ⟨b, off, hae, hlb, c1⟩ := (hin.below hB).at_ hlt
        cases hae
        have c2 := hr.cell hlt
        have f2 := hr.frozen k
        go_wp2
        go_roundw
        case rel => exact ⟨k + 1, by omega, by go_num, hB.setCell hNl _, hr.set hlt _ (fun i _ => upTo_next f k i)⟩
        case measure => simp [intOf]; omega
      · go_wp2
        go_ret
        exact ⟨_, rfl, hB, (hr.congr (fun j hj => upTo_all f (by omega) hj)).ints⟩
end Go.Proofs.Qxb6603687a
