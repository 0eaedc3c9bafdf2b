/-
  writesOf's map 'slot', as a function.
-/
import Derived.Test.Qxb6603687aWPlain
import Derived.Test.Qxb6603687aKey
namespace Go.Proofs.Qxb6603687a
open Go.RowKit Go.Maps
set_option linter.unusedVariables false

/-- 'slot' behind the first k operations. -/
def sMap (H : Hist) (st : Nat → Int) : Nat → Lit → Option Value
  | 0 => fun _ => none
  | k + 1 => if H.o k = 119 ∧ gf H st k = k then upd (sMap H st k) (kl (H.v k) (st k)) (.int .i64 ((grpL H st (H.v k) k).length : Int)) else sMap H st k
/-- Variables and sites fit an int. -/
structure KeyOk (H : Hist) (st : Nat → Int) : Prop where
  v : ∀ k, k < H.n → (Lit.int .i64 (H.v k)).wf = true
  s : ∀ k, k < H.n → H.o k = 119 → (Lit.int .i64 (st k)).wf = true
theorem sMap_at {H : Hist} {st : Nat → Int} (hk : KeyOk H st) {x s : Int} (hx : (Lit.int .i64 x).wf = true) (hs : (Lit.int .i64 s).wf = true) : ∀ m, m ≤ H.n →
    sMap H st m (kl x s) = if fw H st x s m < m then some (.int .i64 ((grpL H st x (fw H st x s m)).length : Int)) else none
  | 0, _ => rfl
  | m + 1, hm => by
    have ih := sMap_at hk hx hs m (by omega)
    have hle := fw_le H st x s m
    have hfw : fw H st x s (m + 1) = if fw H st x s m < m then fw H st x s m else if H.o m = 119 ∧ H.v m = x ∧ st m = s then m else m + 1 := rfl
    have hsm : sMap H st (m + 1) = if H.o m = 119 ∧ gf H st m = m then upd (sMap H st m) (kl (H.v m) (st m)) (.int .i64 ((grpL H st (H.v m) m).length : Int)) else sMap H st m := rfl
    by_cases hkey : H.o m = 119 ∧ H.v m = x ∧ st m = s
    · obtain ⟨h1, h2, h3⟩ := hkey
      have hg : gf H st m = fw H st x s m := by unfold gf; rw [h2, h3]
      by_cases hlt : fw H st x s m < m
      · rw [hsm, if_neg (fun e => by have := e.2; omega), ih, if_pos hlt, hfw, if_pos hlt, if_pos (by omega)]
      · have he : fw H st x s m = m := by omega
        have hfe : fw H st x s (m + 1) = m := by rw [hfw, if_neg hlt, if_pos ⟨h1, h2, h3⟩]
        rw [hsm, if_pos ⟨h1, by omega⟩, h2, h3, upd_same _ _ (law85.key (key_of hx hs)), hfe, if_pos (by omega)]
    · have hsame : sMap H st (m + 1) (kl x s) = sMap H st m (kl x s) := by
        rw [hsm]
        by_cases hw : H.o m = 119 ∧ gf H st m = m
        · rw [if_pos hw]
          refine upd_other _ _ (fun e => ?_)
          obtain ⟨e1, e2⟩ := kl_inj hx hs (hk.v m (by omega)) (hk.s m (by omega) hw.1) e
          exact hkey ⟨hw.1, e1.symm, e2.symm⟩
        · rw [if_neg hw]
      rw [hsame, ih, hfw]
      by_cases hlt : fw H st x s m < m
      · rw [if_pos hlt, if_pos hlt, if_pos (by omega)]
      · rw [if_neg hlt, if_neg hlt, if_neg hkey, if_neg (by omega)]
/-- At a write: its group has begun, or not. -/
theorem sMap_old {H : Hist} {st : Nat → Int} (hk : KeyOk H st) {i : Nat} (hi : i < H.n) (ho : H.o i = 119) (h : gf H st i < i) : sMap H st i (kl (H.v i) (st i)) = some (.int .i64 (rk H st i : Int)) := by
  rw [sMap_at hk (hk.v i hi) (hk.s i hi ho) i (by omega)]
  unfold rk
  rw [if_pos ho]
  unfold gf at h ⊢
  rw [if_pos h]
theorem sMap_new {H : Hist} {st : Nat → Int} (hk : KeyOk H st) {i : Nat} (hi : i < H.n) (ho : H.o i = 119) (h : gf H st i = i) : sMap H st i (kl (H.v i) (st i)) = none := by
  rw [sMap_at hk (hk.v i hi) (hk.s i hi ho) i (by omega)]
  unfold gf at h
  rw [if_neg (by omega)]
end Go.Proofs.Qxb6603687a
