import Derived.Test.YbulkcmoRows
import Derived.WalkKit
import Derived.ProofKit
import Derived.WalkSpells
import Derived.WalkLawsBesides
import Derived.BigQuiet
import Derived.BigRegion
import Derived.Lib.SmallJoins
import Derived.Maps.OwnSet
import Derived.Maps.Ext
namespace Go.Proofs.Ybulkcmo
open Go.ChangeShapes Go.WideShapes Go.ChangeAt Go.RowKit Go.Maps
set_option linter.unusedVariables false

theorem hide {p : Prop} (h : p) : Hid p := h
theorem below_drewN {B : Nat} {a w : World} (n : Nat) (h : Below B a w) : Below B a (w.drewN n) := ⟨h.os, h.tape, h.output, h.size, h.block⟩

theorem law24 : Keyed Yba.prog 24 := int_keyed Yba.underlying24

/-- An element is its own datum. -/
def vR : Value → Option (DataW Value × List MemPlace) := fun v => some (.held v, [])

/-- Block b is a map keyed by uint64 that holds, key by key, what f says. -/
def MapIs (w : World) (b n : Nat) (f : Int → Option Value) : Prop :=
  ∃ D, w.ownsMap Yba.prog 24 vR b n D ∧ ∀ k : Int, 0 ≤ k → k < 18446744073709551616 → (f k = none → Maps.has D (.int .u64 k) = false) ∧ (∀ v, f k = some v → ∀ z, D.atKey (.int .u64 k) z = .held v)

theorem wf_u64 {k : Int} (h0 : 0 ≤ k) (h1 : k < 18446744073709551616) : (Lit.int .u64 k).wf = true := WalkArith.wf_u64 (by omega)

theorem keyOf24 {k : Int} (h0 : 0 ≤ k) (h1 : k < 18446744073709551616) : keyOf Yba.prog 24 (.int .u64 k) = some (.int .u64 k) := keyOf_int_mk Yba.underlying24 (wf_u64 h0 h1)

theorem MapIs.made (w : World) : MapIs (w.alloc (.map #[] 0)) w.heap.size 0 (fun _ => none) :=
  ⟨_, World.ownsMap_made w _ _ _, fun k _ _ => ⟨fun _ => rfl, fun v h => by cases h⟩⟩

theorem MapIs.lt {w : World} {b n : Nat} {f : Int → Option Value} (h : MapIs w b n f) : b < w.heap.size := by obtain ⟨D, h, _⟩ := h; exact h.lt

theorem MapIs.of_block {w w' : World} {b n : Nat} {f : Int → Option Value} (h : MapIs w b n f) (e : w'.heap[b]? = w.heap[b]?) : MapIs w' b n f := by
  obtain ⟨D, ⟨es, clock, hb, rest⟩, hf⟩ := h
  exact ⟨D, ⟨es, clock, e.trans hb, rest⟩, hf⟩

theorem MapIs.later {w w' : World} {b n : Nat} {f : Int → Option Value} (h : MapIs w b n f) (hb : Below w.heap.size w w') : MapIs w' b n f := h.of_block (hb.block b h.lt)

/-- 'm[k] = v'. -/
theorem MapIs.store {w : World} {b n : Nat} {f : Int → Option Value} (h : MapIs w b n f) {t e : TypeId} (ht : Yba.prog.underlying t = some (.map 24 e)) (hn : n < maxLen) {k : Int} (h0 : 0 ≤ k) (h1 : k < 18446744073709551616) (v : Value) :
    ∃ w', (Instr.mapUpdate t (.map (some b)) (.int .u64 k) v).run Yba.prog w = .ok () w' ∧ MapIs w' b (n + 1) (fun k' => if k' = k then some v else f k') ∧ w.mapTurned w' b := by
  obtain ⟨D, hD, hf⟩ := h
  obtain ⟨w', hrun, hown, hturn⟩ := hD.store law24 ht hn (keyOf24 h0 h1) (val := v) (d := .held v) (ps := []) rfl
  refine ⟨w', hrun, ⟨_, hown, ?_⟩, hturn⟩
  intro k' h0' h1'
  by_cases e : k' = k
  · subst e
    refine ⟨fun h => by simp at h, fun u hu z => ?_⟩
    simp at hu
    subst hu
    exact atKey_put_same (k := .int .u64 k') hD.isMap (show WideAt.IsKeyLit (.int .u64 k') from trivial) _ _
  · have hne : (Lit.int .u64 k') ≠ .int .u64 k := by simp [e]
    obtain ⟨g1, g2⟩ := hf k' h0' h1'
    refine ⟨fun h => ?_, fun u hu z => ?_⟩
    · rw [has_put_other hne]; exact g1 (by simpa [e] using h)
    · rw [atKey_put_other hne]; exact g2 u (by simpa [e] using hu) z

/-- 'v, ok := m[k]'. -/
theorem MapIs.look {w : World} {b n : Nat} {f : Int → Option Value} (h : MapIs w b n f) {t e : TypeId} (ht : Yba.prog.underlying t = some (.map 24 e)) {z : Value} (hz : (zeroValue e).run Yba.prog w = .ok z w) {k : Int} (h0 : 0 ≤ k) (h1 : k < 18446744073709551616) :
    (Instr.lookup t (.map (some b)) (.int .u64 k) true).run Yba.prog w = .ok (.tuple #[(f k).getD z, .bool (f k).isSome]) w := by
  obtain ⟨D, hD, hf⟩ := h
  obtain ⟨v, ps, hrun, hv⟩ := hD.look_ok law24 ht hz (zd := .held z) (zp := []) rfl (keyOf24 h0 h1)
  obtain ⟨g1, g2⟩ := hf k h0 h1
  rw [hrun]
  cases hfk : f k with
  | none =>
    have e1 := g1 hfk
    rw [atKey_of_not_has e1] at hv
    simp [vR] at hv
    simp [e1, hv.1]
  | some u =>
    have e1 := g2 u hfk
    rw [e1] at hv
    simp [vR] at hv
    simp [has_true_of_atKey e1, hv.1]

/-- A look-up in a nil map. -/
theorem look_nil24 (w : World) {t e : TypeId} (ht : Yba.prog.underlying t = some (.map 24 e)) {z : Value} (hz : (zeroValue e).run Yba.prog w = .ok z w) {k : Int} (h0 : 0 ≤ k) (h1 : k < 18446744073709551616) :
    (Instr.lookup t (.map none) (.int .u64 k) true).run Yba.prog w = .ok (.tuple #[z, .bool false]) w := by
  have := Maps.look_nil (P := Yba.prog) (w := w) true law24 ht hz (keyOf24 h0 h1)
  simpa using this

theorem turned_below {B : Nat} {w w' : World} {b : Nat} (h : w.mapTurned w' b) (hb : B ≤ b) : Below B w w' :=
  (Below.refl B w).grown h.grown (by
    obtain ⟨es, clock, _, _, h1, _⟩ := h
    have := (Array.getElem?_eq_some_iff.1 h1).1
    omega) (fun k hk => by cases hk; exact hb)

theorem turned_size {w w' : World} {b : Nat} (h : w.mapTurned w' b) : w'.heap.size = w.heap.size := by
  obtain ⟨es, clock, es', clock', h1, rfl⟩ := h
  simp [Go.ChangeMaps.setBlock]

theorem turned_block {w w' : World} {b j : Nat} (h : w.mapTurned w' b) (hj : j ≠ b) : w'.heap[j]? = w.heap[j]? := by
  obtain ⟨es, clock, es', clock', h1, rfl⟩ := h
  exact Go.ChangeMaps.heap_setBlock_other h1 _ hj

end Go.Proofs.Ybulkcmo
