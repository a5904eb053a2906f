import Derived.Test.YbulkcnqRows
import Derived.Test.YbulkcnqPlain
import Derived.WalkKit
import Derived.ProofKit
import Derived.WalkSpells
import Derived.WalkLawsBesides
import Derived.BigQuiet
import Derived.Lib.SmallJoins
import Derived.Deep.AppendLies
namespace Go.Proofs.Ybulkcnq
open Go.ChangeShapes Go.WideShapes Go.ChangeAt Go.RowKit
set_option linter.unusedVariables false

theorem hide {p : Prop} (h : p) : Hid p := h
theorem below_drewN {B : Nat} {a w : World} (n : Nat) (h : Below B a w) : Below B a (w.drewN n) := ⟨h.os, h.tape, h.output, h.size, h.block⟩

/-- A node of the tree, in a block of its own: what the laws read of it. -/
def NodeAt (w : World) (b : Nat) (C : Value) (s q x : Int) : Prop :=
  ∃ cs : Array Value, w.heap[b]? = some (.cells cs 35 (0, 0)) ∧ cs.size = 19 ∧ cs[1]? = some C ∧ cs[2]? = some (.int .i64 (-1)) ∧ cs[8]? = some (.int .i64 s) ∧ cs[11]? = some (.int .i64 q) ∧ cs[12]? = some (.int .i64 x)

/-- w' is w but for the blocks of the n nodes. -/
structure Only (w w' : World) (n : Nat) (nb : Nat → Nat) : Prop where
  os : w'.os = w.os
  tape : w'.tape = w.tape
  output : w'.output = w.output
  size : w'.heap.size = w.heap.size
  block : ∀ k, (∀ i, i < n → nb i ≠ k) → w'.heap[k]? = w.heap[k]?

/-- The n nodes and their slices of children. -/
structure Forest (w : World) (B n : Nat) (nb : Nat → Nat) (C : Nat → Value) (ks : Nat → List Nat) (Q X : Nat → Int) : Prop where
  node : ∀ i, i < n → B ≤ nb i ∧ NodeAt w (nb i) (C i) i (Q i) (X i)
  kids : ∀ i, i < n → w.ownsRow B 28 1 (C i) (ks i).length ((ks i).map fun c => .pointer (some ⟨nb c, 0, none⟩))

theorem Only.refl (w : World) (n : Nat) (nb : Nat → Nat) : Only w w n nb := ⟨rfl, rfl, rfl, rfl, fun _ _ => rfl⟩
theorem Only.trans {a b c : World} {n : Nat} {nb : Nat → Nat} (h : Only a b n nb) (k : Only b c n nb) : Only a c n nb :=
  ⟨k.os.trans h.os, k.tape.trans h.tape, k.output.trans h.output, k.size.trans h.size, fun i hi => (k.block i hi).trans (h.block i hi)⟩
theorem Only.drewN {a b : World} {n : Nat} {nb : Nat → Nat} (h : Only a b n nb) (m : Nat) : Only a (b.drewN m) n nb := ⟨h.os, h.tape, h.output, h.size, h.block⟩
theorem Only.drew {a b : World} {n : Nat} {nb : Nat → Nat} (h : Only a b n nb) : Only a b.drew n nb := ⟨h.os, h.tape, h.output, h.size, h.block⟩
theorem Only.setCell {a b : World} {n : Nat} {nb : Nat → Nat} (h : Only a b n nb) {i : Nat} (hi : i < n) (o : Nat) (v : Value) : Only a (b.setCell ⟨nb i, o, none⟩ v) n nb :=
  h.trans ⟨rfl, rfl, rfl, by simp [World.setCell], fun k hk => Below.heap_setCell _ _ _ _ (fun e => hk i hi (by simpa using e.symm))⟩

theorem Only.below {w w' : World} {B n : Nat} {nb : Nat → Nat} (h : Only w w' n nb) (hB : ∀ i, i < n → B ≤ nb i) : Below B w w' :=
  ⟨h.os, h.tape, h.output, by rw [h.size]; exact Nat.le_refl _, fun k hk => h.block k (fun i hi e => by have := hB i hi; omega)⟩

theorem NodeAt.cell {w : World} {b : Nat} {C : Value} {s q x : Int} (h : NodeAt w b C s q x) :
    w.cell? ⟨b, 1, none⟩ = some C ∧ w.cell? ⟨b, 2, none⟩ = some (.int .i64 (-1)) ∧ w.cell? ⟨b, 8, none⟩ = some (.int .i64 s) ∧ w.cell? ⟨b, 11, none⟩ = some (.int .i64 q) ∧ w.cell? ⟨b, 12, none⟩ = some (.int .i64 x) := by
  obtain ⟨cs, hb, hs, h1, h2, h8, h11, h12⟩ := h
  exact ⟨(Joins.cell_of_block hb 1).trans h1, (Joins.cell_of_block hb 2).trans h2, (Joins.cell_of_block hb 8).trans h8, (Joins.cell_of_block hb 11).trans h11, (Joins.cell_of_block hb 12).trans h12⟩

theorem NodeAt.free {w : World} {b : Nat} {C : Value} {s q x : Int} (h : NodeAt w b C s q x) (o : Nat) : w.frozen? ⟨b, o, none⟩ = false := by
  obtain ⟨cs, hb, _⟩ := h
  simp [World.frozen?, hb]

theorem NodeAt.lt {w : World} {b : Nat} {C : Value} {s q x : Int} (h : NodeAt w b C s q x) : b < w.heap.size := by
  obtain ⟨cs, hb, _⟩ := h
  rcases Nat.lt_or_ge b w.heap.size with h' | h'
  · exact h'
  · rw [Array.getElem?_eq_none h'] at hb; cases hb

theorem NodeAt.of_block {w w' : World} {b : Nat} {C : Value} {s q x : Int} (h : NodeAt w b C s q x) (e : w'.heap[b]? = w.heap[b]?) : NodeAt w' b C s q x := by
  unfold NodeAt; rw [e]; exact h

theorem NodeAt.serial {w : World} {b : Nat} {C C' : Value} {s s' q q' x x' : Int} (h : NodeAt w b C s q x) (h' : NodeAt w b C' s' q' x') : s = s' := by
  have h1 := h.cell.2.2.1
  have h2 := h'.cell.2.2.1
  rw [h1] at h2; simpa using h2

/-- The two stores of startNext, at the node itself. -/
theorem NodeAt.bump {w : World} {b : Nat} {C : Value} {s q x : Int} (h : NodeAt w b C s q x) (q' x' : Int) :
    NodeAt ((w.setCell ⟨b, 11, none⟩ (.int .i64 q')).setCell ⟨b, 12, none⟩ (.int .i64 x')) b C s q' x' := by
  obtain ⟨cs, hb, hs, h1, h2, h8, h11, h12⟩ := h
  have k1 := Joins.block_setCell (i := 11) hb (.int .i64 q')
  have k2 := Joins.block_setCell (i := 12) k1 (.int .i64 x')
  have far : ∀ i, i ≠ 11 → i ≠ 12 → ((cs.setIfInBounds 11 (.int .i64 q')).setIfInBounds 12 (.int .i64 x'))[i]? = cs[i]? := by
    intro i h11 h12
    rw [Array.getElem?_setIfInBounds, if_neg (by omega), Array.getElem?_setIfInBounds, if_neg (by omega)]
  exact ⟨_, k2, by simp [hs], (far 1 (by omega) (by omega)).trans h1, (far 2 (by omega) (by omega)).trans h2, (far 8 (by omega) (by omega)).trans h8, by simp [hs], by simp [hs]⟩

theorem NodeAt.other {w : World} {b b' o : Nat} {C v : Value} {s q x : Int} (h : NodeAt w b C s q x) (hne : b ≠ b') : NodeAt (w.setCell ⟨b', o, none⟩ v) b C s q x :=
  h.of_block (Below.heap_setCell _ _ _ _ hne)

/-- The rows of children lie apart from the nodes. -/
theorem Forest.rows {w w' : World} {B n : Nat} {nb : Nat → Nat} {C : Nat → Value} {ks : Nat → List Nat} {Q X : Nat → Int} (h : Forest w B n nb C ks Q X) (ho : Only w w' n nb) {e : TypeId} (he : e ≠ 35) {v : Value} {m : Nat} {xs : List Value} (hr : w.ownsRow B e 1 v m xs) : w'.ownsRow B e 1 v m xs := by
  refine ⟨hr.1, ?_⟩
  rcases hr.2 with hn | ⟨g, cap, cur, rfl, hb, hg, rest⟩
  · exact .inl hn
  · refine .inr ⟨g, cap, cur, rfl, hb, ?_, rest⟩
    rw [ho.block g ?_]; exact hg
    intro i hi e1
    obtain ⟨cs, hc, _⟩ := (h.node i hi).2
    rw [e1, hg] at hc
    simp at hc
    exact he hc.2

/-- What a set S of nodes, each bumped (once or more), holds. -/
def bq (S : Nat → Bool) (Q X : Nat → Int) (j : Nat) : Int := if S j then wrap64 (Q j + X j) else Q j
def bx (S : Nat → Bool) (X : Nat → Int) (j : Nat) : Int := if S j then 0 else X j
def orS (S T : Nat → Bool) (j : Nat) : Bool := S j || T j

theorem wrap64_wrap64 (a : Int) : wrap64 (wrap64 a + 0) = wrap64 a := by unfold wrap64; omega

theorem bq_again (S : Nat → Bool) (Q X : Nat → Int) (i : Nat) : wrap64 (bq S Q X i + bx S X i) = wrap64 (Q i + X i) := by
  unfold bq bx
  by_cases h : S i = true
  · rw [if_pos h, if_pos h, wrap64_wrap64]
  · rw [if_neg h, if_neg h]

theorem Forest.congr {w : World} {B n : Nat} {nb : Nat → Nat} {C : Nat → Value} {ks : Nat → List Nat} {Q X Q' X' : Nat → Int} (h : Forest w B n nb C ks Q X) (hq : ∀ j, j < n → Q j = Q' j) (hx : ∀ j, j < n → X j = X' j) : Forest w B n nb C ks Q' X' :=
  ⟨fun i hi => by rw [← hq i hi, ← hx i hi]; exact h.node i hi, h.kids⟩

theorem Forest.drew {w : World} {B n : Nat} {nb : Nat → Nat} {C : Nat → Value} {ks : Nat → List Nat} {Q X : Nat → Int} (h : Forest w B n nb C ks Q X) : Forest w.drew B n nb C ks Q X := ⟨h.node, h.kids⟩

/-- The node i bumped. -/
theorem Forest.bump {w : World} {B n : Nat} {nb : Nat → Nat} {C : Nat → Value} {ks : Nat → List Nat} {Q X : Nat → Int} {S : Nat → Bool} (h : Forest w B n nb C ks (bq S Q X) (bx S X)) {i : Nat} (hi : i < n) :
    Forest ((w.setCell ⟨nb i, 11, none⟩ (.int .i64 (wrap64 (bq S Q X i + bx S X i)))).setCell ⟨nb i, 12, none⟩ (.int .i64 0)) B n nb C ks (bq (orS S (fun j => decide (j = i))) Q X) (bx (orS S (fun j => decide (j = i))) X) := by
  have ho : Only w ((w.setCell ⟨nb i, 11, none⟩ (.int .i64 (wrap64 (bq S Q X i + bx S X i)))).setCell ⟨nb i, 12, none⟩ (.int .i64 0)) n nb := ((Only.refl w n nb).setCell hi _ _).setCell hi _ _
  refine ⟨fun j hj => ⟨(h.node j hj).1, ?_⟩, fun j hj => h.rows ho (by decide) (h.kids j hj)⟩
  by_cases hij : j = i
  · subst hij
    have hb := (h.node j hj).2.bump (wrap64 (bq S Q X j + bx S X j)) 0
    have e1 : bq (orS S (fun j' => decide (j' = j))) Q X j = wrap64 (bq S Q X j + bx S X j) := by rw [bq_again]; simp [bq, orS]
    have e2 : bx (orS S (fun j' => decide (j' = j))) X j = 0 := by simp [bx, orS]
    rw [e1, e2]; exact hb
  · have hne : nb j ≠ nb i := by
      intro e
      have h1 := (h.node j hj).2
      rw [e] at h1
      have := h1.serial (h.node i hi).2
      omega
    have e1 : bq (orS S (fun j' => decide (j' = i))) Q X j = bq S Q X j := by simp [bq, orS, hij]
    have e2 : bx (orS S (fun j' => decide (j' = i))) X j = bx S X j := by simp [bx, orS, hij]
    rw [e1, e2]
    exact ((h.node j hj).2.other hne).other hne

end Go.Proofs.Ybulkcnq
