/-
  FnWritesOfExact (3): what stands at each point of the law.
-/
import Derived.Test.Qxb6603687aWZz
import Derived.Test.Qxb6603687aCopy
namespace Go.Proofs.Qxb6603687a
open Go.RowKit Go.Maps
set_option linter.unusedVariables false

theorem Copied.isOps {t : TypeId} {w w' : World} {H : Hist} {e : Ending} (h : Copied t w H e w') : ∃ ad, e = .returned (.slice ad H.n H.n) ∧ Below w.heap.size w w' ∧ IsOps w' (.slice ad H.n H.n) H := by
  rcases h with ⟨hb, ⟨h0, he⟩ | ⟨he, C, hg, hC⟩⟩
  · exact ⟨none, by rw [h0]; exact he, hb, .inl ⟨none, 0, by rw [h0], h0⟩⟩
  · exact ⟨_, he, hb, .inr ⟨_, _, _, rfl, hC.opsIn hg⟩⟩
/-- The copies and the answer. -/
structure Snap (H : Hist) (st : Nat → Int) (nS : Nat) (aH aS : Option Addr) (gZ B gM N : Nat) (GV : Int → Value) (RV : Nat → Value) (w : World) : Prop where
  ops : IsOps w (.slice aH H.n H.n) H
  ints : Ints w aS .i32 nS st
  box : Blk w gZ 30 #[.map (some gM)]
  res : WRes H st B gM N GV RV w
section
variable {H : Hist} {st : Nat → Int} {nS : Nat} {aH aS : Option Addr} {gZ B gM N G : Nat} {GV : Int → Value} {RV : Nat → Value} {w0 w w' : World}
theorem Snap.below (h : Snap H st nS aH aS gZ B gM N GV RV w) (hb : Below w.heap.size w w') : Snap H st nS aH aS gZ B gM N GV RV w' :=
  ⟨h.ops.grow hb, h.ints.below hb, h.box.below hb h.box.lt, h.res.below hb⟩
theorem Snap.op (h : Snap H st nS aH aS gZ B gM N GV RV w) {k : Nat} (hk : k < H.n) : ∃ b off, aH = some ⟨b, off, none⟩ ∧ w.cell? ⟨b, off + k * 4 + 1, none⟩ = some (.int .u8 (H.o k)) ∧ w.cell? ⟨b, off + k * 4 + 2, none⟩ = some (.int .i64 (H.v k)) := by
  obtain ⟨b, off, e, _, _, c1, c2, _⟩ := h.ops.op hk
  exact ⟨b, off, e, c1, c2⟩
theorem Snap.site (h : Snap H st nS aH aS gZ B gM N GV RV w) {k : Nat} (hk : k < nS) : ∃ b off, aS = some ⟨b, off, none⟩ ∧ w.cell? ⟨b, off + k, none⟩ = some (.int .i32 (st k)) := by
  obtain ⟨b, off, e, _, c1⟩ := h.ints.at_ hk
  exact ⟨b, off, e, c1⟩
/-- With the law's own table of groups. -/
structure LG (H : Hist) (st : Nat → Int) (nS : Nat) (aH aS : Option Addr) (gZ B gM N G : Nat) (GV : Int → Value) (RV : Nat → Value) (w0 w : World) : Prop where
  snap : Snap H st nS aH aS gZ B gM N GV RV w
  bel : Below w0.heap.size w0 w
  gf : RowFn w G 3 .i64 H.n (gfv H st)
theorem LG.grow (h : LG H st nS aH aS gZ B gM N G GV RV w0 w) (hb : Below w.heap.size w w') : LG H st nS aH aS gZ B gM N G GV RV w0 w' :=
  ⟨h.snap.below hb, h.bel.trans (hb.mono h.bel.size), h.gf.below hb h.gf.lt⟩
theorem LG.drewN (h : LG H st nS aH aS gZ B gM N G GV RV w0 w) (m : Nat) : LG H st nS aH aS gZ B gM N G GV RV w0 (w.drewN m) := h.grow (below_drewN (Below.refl _ _) m)
end
theorem GRows.below {H : Hist} {st : Nat → Int} {x : Int} {RV : Nat → Value} {L A k : Nat} {w w' : World} (h : GRows H st x RV L A k w) (hb : Below w.heap.size w w') : GRows H st x RV L A k w' :=
  ⟨h.a.below hb h.a.lt, h.b.below hb h.b.lt, h.c.below hb h.c.lt, h.d.below hb h.d.lt⟩
theorem GRows.drewN {H : Hist} {st : Nat → Int} {x : Int} {RV : Nat → Value} {L A k : Nat} {w : World} (h : GRows H st x RV L A k w) (m : Nat) : GRows H st x RV L A k (w.drewN m) := h.below (below_drewN (Below.refl _ _) m)
theorem RowFn.drewN' {w : World} {g : Nat} {e : TypeId} {kd : IntKind} {n : Nat} {f : Nat → Int} (h : RowFn w g e kd n f) (m : Nat) : RowFn (w.drewN m) g e kd n f := h.below (below_drewN (Below.refl _ _) m) h.lt
/-- groupFirst, the first k filled. -/
def gF (H : Hist) (st : Nat → Int) (k j : Nat) : Int := if j < k then gfv H st j else 0
theorem gF_next (H : Hist) (st : Nat → Int) (k i : Nat) : gF H st (k + 1) i = if i = k then gfv H st k else gF H st k i := by
  unfold gF
  by_cases e : i = k
  · subst e; rw [if_pos (by omega), if_pos rfl]
  · rw [if_neg e]
    by_cases h1 : i < k
    · rw [if_pos (by omega), if_pos h1]
    · rw [if_neg (by omega), if_neg h1]
theorem gF_all (H : Hist) (st : Nat → Int) {n j : Nat} (hj : j < n) : gfv H st j = gF H st n j := by unfold gF; rw [if_pos hj]
theorem rowFn_gF (w : World) (H : Hist) (st : Nat → Int) (n : Nat) : RowFn (w.alloc (.cells (zeros .i64 n) 3)) w.heap.size 3 .i64 n (gF H st 0) := (rowFn_zeros (Blk.new w 3 _)).congr (fun j _ => if_neg (by omega))
theorem gfv_first {H : Hist} {st : Nat → Int} {k : Nat} (ho : H.o k = 119) (hb : ∀ j, j < k → ¬ (H.o j = 119 ∧ H.v j = H.v k ∧ st j = st k)) : gfv H st k = (k : Int) := by
  rw [gfv_is H st ho]
  unfold Qxb6603687a.gf
  rw [fw_none H st hb]
theorem gfv_hit {H : Hist} {st : Nat → Int} {k m : Nat} (ho : H.o k = 119) (hm : m < k) (h : H.o m = 119 ∧ H.v m = H.v k ∧ st m = st k) (hb : ∀ j, j < m → ¬ (H.o j = 119 ∧ H.v j = H.v k ∧ st j = st k)) : gfv H st k = (m : Int) := by
  rw [gfv_is H st ho]
  unfold Qxb6603687a.gf
  rw [fw_hit H st hm h hb]
theorem rk_le (H : Hist) (st : Nat → Int) (k : Nat) : rk H st k ≤ k := by
  unfold rk
  split
  · have := grpL_le H st (H.v k) (gf H st k)
    have := gf_le H st k
    omega
  · omega
theorem rk_is {H : Hist} {st : Nat → Int} {k : Nat} (ho : H.o k = 119) : rk H st k = (grpL H st (H.v k) (gf H st k)).length := by
  unfold rk
  rw [if_pos ho]
theorem rk_no {H : Hist} {st : Nat → Int} {k : Nat} (ho : H.o k ≠ 119) : rk H st k = 0 := by
  unfold rk
  rw [if_neg ho]
theorem Covered.lt {H : Hist} {nS k : Nat} (h : Covered H nS) (hk : k < H.n) (ho : H.o k = 119) : k < nS := by
  apply Classical.byContradiction
  intro hn
  exact h k (by omega) hk ho
/-- A group of x at its place. -/
theorem gAt_here {H : Hist} {st : Nat → Int} {x : Int} {g : Nat} (hg : isG H st g) (hx : H.v g = x) (hn : g < H.n) : (grpL H st x g).length < (grpL H st x H.n).length ∧ gAt H st x (grpL H st x g).length = g := by
  subst hx
  have h1 := grpL_at H st hg H.n hn
  have h2 := (List.getElem?_eq_some_iff.1 h1).1
  refine ⟨h2, ?_⟩
  have h3 := gAt_some H st (H.v g) h2
  rw [h1] at h3
  exact (Option.some.inj h3).symm
end Go.Proofs.Qxb6603687a
