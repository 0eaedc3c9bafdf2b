/-
  A map that a call itself has made, as a function from keys to values: 'MapFn w P k b n c f': block b is a map (keys of type k) of at most n entries, of just c entries, that holds f.
-/
import Derived.Test.Qxb6603687aBlk
import Derived.Maps.OwnSet
import Derived.Maps.OwnOps
namespace Go.Proofs.Qxb6603687a
open Go.RowKit Go.Maps
set_option linter.unusedVariables false

/-- Every value reads as itself. -/
def idR (v : Value) : Option (DataW Value × List MemPlace) := some (.held v, [])
/-- f, but v at key l. -/
def upd (f : Lit → Option Value) (l : Lit) (v : Value) : Lit → Option Value := fun l' => if l'.sameKey l then some v else f l'
theorem upd_same (f : Lit → Option Value) {l : Lit} (v : Value) (h : WideAt.IsKeyLit l) : upd f l v l = some v := if_pos (WideAt.sameKey_self h)
theorem upd_other (f : Lit → Option Value) {l l' : Lit} (v : Value) (h : l' ≠ l) : upd f l v l' = f l' := if_neg (by rw [Maps.sameKey_ne h]; decide)

def MapFn (w : World) (P : Program) (k : TypeId) (b n c : Nat) (f : Lit → Option Value) : Prop :=
  ∃ D : DataW Value, w.ownsMap P k idR b n D ∧ Maps.size D = c ∧ ∀ l, WideAt.IsKeyLit l → Maps.has D l = (f l).isSome ∧ ∀ z, D.atKey l z = (f l).elim z .held

section
variable {P : Program} {k : TypeId} {w w' : World} {b n c : Nat} {f : Lit → Option Value}

theorem mapFn_made (w : World) (P : Program) (k : TypeId) : MapFn (w.alloc (.map #[] 0)) P k w.heap.size 0 0 (fun _ => none) :=
  ⟨.map [], World.ownsMap_made w P k idR, rfl, fun l _ => ⟨rfl, fun z => rfl⟩⟩
theorem MapFn.lt (h : MapFn w P k b n c f) : b < w.heap.size := let ⟨_, h, _⟩ := h; h.lt
theorem MapFn.of_block (h : MapFn w P k b n c f) (e : w'.heap[b]? = w.heap[b]?) : MapFn w' P k b n c f := by
  obtain ⟨D, ⟨es, clock, hb, r⟩, h2⟩ := h
  exact ⟨D, ⟨es, clock, e.trans hb, r⟩, h2⟩
theorem MapFn.alloc (h : MapFn w P k b n c f) (o : Obj) : MapFn (w.alloc o) P k b n c f := h.of_block (Below.heap_alloc w o b h.lt)
theorem MapFn.drew (h : MapFn w P k b n c f) : MapFn w.drew P k b n c f := h
theorem MapFn.drewN (h : MapFn w P k b n c f) (m : Nat) : MapFn (w.drewN m) P k b n c f := h
theorem MapFn.other (h : MapFn w P k b n c f) {a : Addr} (hne : b ≠ a.block) (v : Value) : MapFn (w.setCell a v) P k b n c f := h.of_block (heap_setCell_other w a b v hne)
theorem MapFn.below {B : Nat} (h : MapFn w P k b n c f) (hb : Below B w w') (hlt : b < B) : MapFn w' P k b n c f := h.of_block (hb.block b hlt)
theorem MapFn.kept {row : Option Nat} (h : MapFn w P k b n c f) (hg : w.grownBy w' row) (hne : some b ≠ row) : MapFn w' P k b n c f := h.of_block (hg.block b h.lt hne)
theorem MapFn.mono (h : MapFn w P k b n c f) {n' : Nat} (hn : n ≤ n') : MapFn w P k b n' c f := let ⟨D, h1, h2⟩ := h; ⟨D, h1.mono hn, h2⟩
theorem MapFn.congr (h : MapFn w P k b n c f) {g : Lit → Option Value} {c' : Nat} (hc : c = c') (hg : ∀ l, f l = g l) : MapFn w P k b n c' g := by
  have : f = g := funext hg
  subst this
  subst hc
  exact h

theorem idR_inv {v : Value} {d : DataW Value} {ps : List MemPlace} (h : idR v = some (d, ps)) : d = .held v := by
  simp [idR] at h
  exact h.1.symm

/-- 'v, ok := m[k]': the key is there. -/
theorem MapFn.look_hit (h : MapFn w P k b n c f) (K : Keyed P k) {t e : TypeId} (ht : P.underlying t = some (.map k e)) {z : Value} (hz : (zeroValue e).run P w = .ok z w) {key v : Value} {l : Lit} (hkey : keyOf P k key = some l) (hf : f l = some v) :
    (Instr.lookup t (.map (some b)) key true).run P w = .ok (.tuple #[v, .bool true]) w := by
  obtain ⟨D, h1, _, h2⟩ := h
  obtain ⟨v', ps, hrun, hv⟩ := h1.look_ok K ht hz (zd := .held z) (zp := []) rfl hkey
  obtain ⟨h3, h4⟩ := h2 l (K.key hkey)
  rw [hf] at h3 h4
  rw [h3] at hrun
  have h5 := idR_inv hv
  rw [h4] at h5
  simp at h5
  subst h5
  exact hrun
/-- .. it is not. -/
theorem MapFn.look_miss (h : MapFn w P k b n c f) (K : Keyed P k) {t e : TypeId} (ht : P.underlying t = some (.map k e)) {z : Value} (hz : (zeroValue e).run P w = .ok z w) {key : Value} {l : Lit} (hkey : keyOf P k key = some l) (hf : f l = none) :
    (Instr.lookup t (.map (some b)) key true).run P w = .ok (.tuple #[z, .bool false]) w := by
  obtain ⟨D, h1, _, h2⟩ := h
  obtain ⟨v', ps, hrun, hv⟩ := h1.look_ok K ht hz (zd := .held z) (zp := []) rfl hkey
  obtain ⟨h3, h4⟩ := h2 l (K.key hkey)
  rw [hf] at h3 h4
  rw [h3] at hrun
  have h5 := idR_inv hv
  rw [h4] at h5
  simp at h5
  subst h5
  exact hrun
/-- 'm[k]', without 'ok'. -/
theorem MapFn.look (h : MapFn w P k b n c f) (K : Keyed P k) {t e : TypeId} (ht : P.underlying t = some (.map k e)) {z : Value} (hz : (zeroValue e).run P w = .ok z w) {key : Value} {l : Lit} (hkey : keyOf P k key = some l) :
    (Instr.lookup t (.map (some b)) key false).run P w = .ok ((f l).getD z) w := by
  obtain ⟨D, h1, _, h2⟩ := h
  obtain ⟨v', ps, hrun, hv⟩ := h1.lookup K ht hz (zd := .held z) (zp := []) rfl hkey
  obtain ⟨h3, h4⟩ := h2 l (K.key hkey)
  have h5 := idR_inv hv
  rw [h4] at h5
  rw [hrun]
  cases hf : f l with
  | none => rw [hf] at h5; simp at h5; rw [h5]; rfl
  | some x => rw [hf] at h5; simp at h5; rw [h5]; rfl
/-- 'm[k] = v'. -/
theorem MapFn.store (h : MapFn w P k b n c f) (K : Keyed P k) {t e : TypeId} (ht : P.underlying t = some (.map k e)) (hn : n < maxLen) {key v : Value} {l : Lit} (hkey : keyOf P k key = some l) :
    ∃ w', (Instr.mapUpdate t (.map (some b)) key v).run P w = .ok () w' ∧ MapFn w' P k b (n + 1) (if (f l).isSome then c else c + 1) (upd f l v) ∧ w.grownBy w' (some b) := by
  obtain ⟨D, h1, hc, h2⟩ := h
  obtain ⟨w', hrun, hown, hgrow⟩ := h1.update K ht hn (d := .held v) (ps := []) hkey rfl
  have hl := K.key hkey
  refine ⟨w', hrun, ⟨_, hown, ?_, fun l' hl' => ?_⟩, hgrow⟩
  · rw [Maps.size_put (h1.tidy K), hc, (h2 l hl).1]
  · by_cases e : l' = l
    · subst e
      rw [upd_same f v hl, Maps.has_put_same h1.isMap hl]
      exact ⟨rfl, fun z => by rw [Maps.atKey_put_same h1.isMap hl]; rfl⟩
    · rw [upd_other f v e, Maps.has_put_other e]
      exact ⟨(h2 l' hl').1, fun z => by rw [Maps.atKey_put_other e]; exact (h2 l' hl').2 z⟩
/-- 'len(m)'. -/
theorem MapFn.len (h : MapFn w P k b n c f) {t e : TypeId} (ht : P.underlying t = some (.map k e)) (ty : TypeId) : (Builtin.len_ #[t] ty #[.map (some b)]).run P w = .ok (.int .i64 c) w := by
  obtain ⟨D, h1, hc, h2⟩ := h
  rw [← hc]
  exact h1.len ht ty
end

/-! ### at the operation, for the walk -/
section
variable {P : Program} (w : World) {ops : Array Oper} {rest : List Oper} {o : Oper} {a : Act} {Q : Exit → Act → World → Prop}
theorem wpList_look_hit (hg : o.guard = none) (m x : Operand) (t : TypeId) (hop : o.op = Op.lookup t m x true)
    (k e : TypeId) (K : Keyed P k) (ht : P.underlying t = some (.map k e)) {z : Value} (hz : (zeroValue e).run P w = .ok z w) (b n c : Nat) (f : Lit → Option Value)
    (hm : a.eval m = .map (some b)) (hown : MapFn w P k b n c f) (key : Value) (l : Lit) (hx : a.eval x = key) (hkey : keyOf P k key = some l) (v : Value) (hf : f l = some v)
    (hK : wpList P ops Q rest (a.put o.dst (.tuple #[v, .bool true])) w) :
    wpList P ops Q (o :: rest) a w := by
  refine wpList_plain hg fun K' hK' => ?_
  have hrun := hown.look_hit K ht hz hkey hf
  unfold Oper.wp
  simp [execOp, hop, hm, hx, hrun, Result.andThen]
  exact hK' _ _ hK
theorem wpList_look_miss (hg : o.guard = none) (m x : Operand) (t : TypeId) (hop : o.op = Op.lookup t m x true)
    (k e : TypeId) (K : Keyed P k) (ht : P.underlying t = some (.map k e)) {z : Value} (hz : (zeroValue e).run P w = .ok z w) (b n c : Nat) (f : Lit → Option Value)
    (hm : a.eval m = .map (some b)) (hown : MapFn w P k b n c f) (key : Value) (l : Lit) (hx : a.eval x = key) (hkey : keyOf P k key = some l) (hf : f l = none)
    (hK : wpList P ops Q rest (a.put o.dst (.tuple #[z, .bool false])) w) :
    wpList P ops Q (o :: rest) a w := by
  refine wpList_plain hg fun K' hK' => ?_
  have hrun := hown.look_miss K ht hz hkey hf
  unfold Oper.wp
  simp [execOp, hop, hm, hx, hrun, Result.andThen]
  exact hK' _ _ hK
theorem wpList_store_fn (hg : o.guard = none) (m x v : Operand) (t : TypeId) (hop : o.op = Op.mapUpdate t m x v)
    (k e : TypeId) (K : Keyed P k) (ht : P.underlying t = some (.map k e)) (b n c : Nat) (f : Lit → Option Value)
    (hm : a.eval m = .map (some b)) (hown : MapFn w P k b n c f) (hn : n < maxLen) (key val : Value) (l : Lit) (hx : a.eval x = key) (hv : a.eval v = val) (hkey : keyOf P k key = some l)
    (hK : ∀ w', MapFn w' P k b (n + 1) (if (f l).isSome then c else c + 1) (upd f l val) → w.grownBy w' (some b) → wpList P ops Q rest (a.put o.dst undef) w') :
    wpList P ops Q (o :: rest) a w := by
  refine wpList_plain hg fun K' hK' => ?_
  obtain ⟨w', hrun, r1, r2⟩ := hown.store K ht hn (v := val) hkey
  unfold Oper.wp
  simp [execOp, hop, hm, hx, hv, hrun, Result.andThen]
  exact hK' _ _ (hK w' r1 r2)
end
end Go.Proofs.Qxb6603687a
