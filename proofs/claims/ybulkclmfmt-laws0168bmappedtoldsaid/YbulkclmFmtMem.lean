import Derived.Test.YbulkclmFmtRows
import Derived.WalkKit
import Derived.ProofKit
import Derived.WalkSpells
import Derived.WalkLawsBesides
import Derived.BigQuiet
import Derived.BigRegion
import Derived.Deep.QuietTactic
import Derived.Deep.AppendSrc
import Derived.Deep.Upon
import Derived.Deep.MidRow
import Derived.Lib.SmallJoins
import Derived.Lib.AppendZeros
import Derived.Lib.EndianBits
namespace Go.Proofs.YbulkclmFmt
open Go.ChangeShapes Go.WideShapes Go.ChangeAt Go.RowKit
set_option linter.unusedVariables false

theorem hide {p : Prop} (h : p) : Hid p := h

/-- Below block N, block k aside, B is as A was. -/
structure Hole (k N : Nat) (A B : World) : Prop where
  os : B.os = A.os
  tape : B.tape = A.tape
  output : B.output = A.output
  size : A.heap.size ≤ B.heap.size
  block : ∀ j, j < N → j ≠ k → B.heap[j]? = A.heap[j]?

theorem Hole.refl (k N : Nat) (A : World) : Hole k N A A := ⟨rfl, rfl, rfl, Nat.le_refl _, fun _ _ _ => rfl⟩
theorem Hole.trans {k N : Nat} {A B C : World} (h : Hole k N A B) (g : Hole k N B C) : Hole k N A C :=
  ⟨g.os.trans h.os, g.tape.trans h.tape, g.output.trans h.output, Nat.le_trans h.size g.size, fun j h1 h2 => (g.block j h1 h2).trans (h.block j h1 h2)⟩
theorem Hole.mono {k N N' : Nat} {A B : World} (h : Hole k N A B) (hN : N' ≤ N) : Hole k N' A B := ⟨h.os, h.tape, h.output, h.size, fun j h1 h2 => h.block j (by omega) h2⟩
theorem Hole.of_below {k N : Nat} {A B : World} (h : Below N A B) : Hole k N A B := ⟨h.os, h.tape, h.output, h.size, fun j h1 _ => h.block j h1⟩
theorem Hole.below {k N B0 : Nat} {A B : World} (h : Hole k N A B) (hN : B0 ≤ N) (hk : B0 ≤ k) : Below B0 A B := ⟨h.os, h.tape, h.output, h.size, fun j h1 => h.block j (by omega) (by omega)⟩
theorem Hole.alloc (k : Nat) {N : Nat} (A : World) (o : Obj) (h : N ≤ A.heap.size) : Hole k N A (A.alloc o) := .of_below ((Below.refl _ _).alloc h o)
theorem Hole.drew {k N : Nat} {A B : World} (h : Hole k N A B) : Hole k N A B.drew := ⟨h.os, h.tape, h.output, h.size, h.block⟩
theorem Hole.setCell (k N o : Nat) (A : World) (v : Value) : Hole k N A (A.setCell ⟨k, o, none⟩ v) :=
  ⟨rfl, rfl, rfl, by simp [World.setCell], fun j _ hj => Below.heap_setCell _ _ _ _ hj⟩
theorem Hole.cell {k N : Nat} {A B : World} (h : Hole k N A B) {p : Addr} (h1 : p.block < N) (h2 : p.block ≠ k) : B.cell? p = A.cell? p := World.cell?_of_block (w := A) (h.block p.block h1 h2)
theorem Hole.frozen {k N : Nat} {A B : World} (h : Hole k N A B) {p : Addr} (h1 : p.block < N) (h2 : p.block ≠ k) : B.frozen? p = A.frozen? p := World.frozen?_of_block (w := A) (h.block p.block h1 h2)
theorem Hole.setCells (k N : Nat) : ∀ (vs : List Value) (o : Nat) (A : World), Hole k N A (A.setCells k o vs)
  | [], _, A => Hole.refl _ _ A
  | v :: r, o, A => (Hole.setCell k N o A v).trans (Hole.setCells k N r (o + 1) _)
theorem below_drewN {B : Nat} {a w : World} (n : Nat) (h : Below B a w) : Below B a (w.drewN n) := ⟨h.os, h.tape, h.output, h.size, h.block⟩
theorem Hole.size_same {k N : Nat} {A B : World} (h : Hole k N A B) : A.heap.size ≤ B.heap.size := h.size

def Byt (B : Nat → Int) : Prop := ∀ j, 0 ≤ B j ∧ B j < 256
def le32 (B : Nat → Int) (o : Nat) : Int := B o + B (o + 1) * 256 + B (o + 2) * 65536 + B (o + 3) * 16777216
/-- The cells of block g from o on hold the bytes of B from p on. -/
def At (w : World) (g o : Nat) (B : Nat → Int) (p n : Nat) : Prop := ∀ j, j < n → w.cell? ⟨g, o + j, none⟩ = some (.int .u8 (B (p + j)))

/-- Block g has cap cells, none of them frozen. -/
structure Room (w : World) (g cap : Nat) : Prop where
  lt : g < w.heap.size
  there : ∀ j, j < cap → (w.cell? ⟨g, j, none⟩).isSome = true
  free : ∀ j, w.frozen? ⟨g, j, none⟩ = false

/-- A slice of bytes of the call's own: block g, n bytes of cap. -/
structure Row (w : World) (g cap n : Nat) (B : Nat → Int) : Prop where
  room : Room w g cap
  le : n ≤ cap
  at_ : ∀ j, j < n → w.cell? ⟨g, j, none⟩ = some (.int .u8 (B j))

theorem Room.hole {w w' : World} {g cap k N : Nat} (h : Room w g cap) (hh : Hole k N w w') (h1 : g < N) (h2 : g ≠ k) : Room w' g cap :=
  ⟨Nat.lt_of_lt_of_le h.lt hh.size, fun j hj => by rw [hh.cell (p := ⟨g, j, none⟩) h1 h2]; exact h.there j hj, fun j => by rw [hh.frozen (p := ⟨g, j, none⟩) h1 h2]; exact h.free j⟩
theorem Row.hole {w w' : World} {g cap n k N : Nat} {B : Nat → Int} (h : Row w g cap n B) (hh : Hole k N w w') (h1 : g < N) (h2 : g ≠ k) : Row w' g cap n B :=
  ⟨h.room.hole hh h1 h2, h.le, fun j hj => by rw [hh.cell (p := ⟨g, j, none⟩) h1 h2]; exact h.at_ j hj⟩
theorem Row.later {w w' : World} {g cap n : Nat} {B : Nat → Int} (h : Row w g cap n B) (hb : Below w.heap.size w w') : Row w' g cap n B := h.hole (Hole.of_below (k := w.heap.size) hb) h.room.lt (Nat.ne_of_lt h.room.lt)
theorem Row.take {w : World} {g cap n : Nat} {B : Nat → Int} (h : Row w g cap n B) (p m : Nat) (hm : p + m ≤ n) : At w g p B p m := fun j hj => h.at_ (p + j) (by omega)
theorem Row.congr {w : World} {g cap n : Nat} {B C : Nat → Int} (h : Row w g cap n B) (e : ∀ j, j < n → B j = C j) : Row w g cap n C := ⟨h.room, h.le, fun j hj => by rw [← e j hj]; exact h.at_ j hj⟩

theorem Room.setCell {w : World} {g cap : Nat} (h : Room w g cap) (j : Nat) (v : Value) : Room (w.setCell ⟨g, j, none⟩ v) g cap :=
  ⟨by simp [World.setCell]; exact h.lt, fun i hi => by
    by_cases e : i = j
    · subst e
      obtain ⟨u, hu⟩ := Option.isSome_iff_exists.1 (h.there i hi)
      rw [World.cell?_setCell_same _ _ _ hu]; rfl
    · rw [World.cell?_setCell_other _ _ _ _ (by simp <;> omega)]; exact h.there i hi, fun i => by rw [World.frozen?_setCell]; exact h.free i⟩

theorem Row.setCell {w : World} {g cap n : Nat} {B : Nat → Int} (h : Row w g cap n B) (j : Nat) (hj : j < n) (x : Int) : Row (w.setCell ⟨g, j, none⟩ (.int .u8 x)) g cap n (fun k => if k = j then x else B k) :=
  ⟨h.room.setCell j _, h.le, fun i hi => by
    by_cases e : i = j
    · subst e
      rw [World.cell?_setCell_same _ _ _ (h.at_ i hi), if_pos rfl]
    · rw [World.cell?_setCell_other _ _ _ _ (by simp <;> omega), if_neg e]; exact h.at_ i hi⟩

/-- n bytes of B, then C. -/
def catB (B : Nat → Int) (n : Nat) (C : Nat → Int) : Nat → Int := fun j => if j < n then B j else C (j - n)
/-- The first m bytes of C, as cells. -/
def cellsOf (C : Nat → Int) (m : Nat) : List Value := (List.range m).map fun j => .int .u8 (C j)
theorem cellsOf_length (C : Nat → Int) (m : Nat) : (cellsOf C m).length = m := by simp [cellsOf]
theorem cellsOf_get {C : Nat → Int} {m j : Nat} (h : j < (cellsOf C m).length) : (cellsOf C m)[j] = .int .u8 (C j) := by simp [cellsOf]
theorem cellsOf_get? {C : Nat → Int} {m j : Nat} (h : j < m) : (cellsOf C m)[j]? = some (.int .u8 (C j)) := by simp [cellsOf, h]

/-- m bytes are stored behind the first o. -/
theorem Row.setCells {w : World} {g cap n : Nat} {B : Nat → Int} (h : Row w g cap n B) (o m : Nat) (C : Nat → Int) (ho : o ≤ n) (hm : o + m ≤ cap) : Row (w.setCells g o (cellsOf C m)) g cap (max n (o + m)) (fun j => if o ≤ j ∧ j < o + m then C (j - o) else B j) := by
  have hin : ∀ j, j < m → (w.setCells g o (cellsOf C m)).cell? ⟨g, o + j, none⟩ = some (.int .u8 (C j)) := fun j hj => by
    rw [World.cell?_setCells_in g _ o w (fun i hi => h.room.there _ (by rw [cellsOf_length] at hi; omega)) j (by rw [cellsOf_length]; exact hj), cellsOf_get]
  refine ⟨⟨Nat.lt_of_lt_of_le h.room.lt (Hole.setCells g 0 _ o w).size, fun j hj => World.isSome_setCells _ _ _ _ _ (h.room.there j hj), fun j => by rw [World.frozen?_setCells]; exact h.room.free j⟩, ?_, fun j hj => ?_⟩
  · have := h.le; omega
  · by_cases e : o ≤ j ∧ j < o + m
    · rw [if_pos e]
      have := hin (j - o) (by omega)
      rwa [show o + (j - o) = j by omega] at this
    · rw [if_neg e, World.cell?_setCells_out _ _ _ _ _ (fun _ _ => by rw [cellsOf_length]; simp; omega)]
      exact h.at_ j (by omega)

theorem info5 : (Ybaf.prog.info? 5).map (fun i => (i.zero, i.size, i.bytes)) = some (some (.int .u8 0), 1, 1) := by kernel_rfl

theorem Row.first {w : World} {g cap n : Nat} {B : Nat → Int} (h : Row w g cap n B) : (Builtin.firstCells 1 n (.slice (some ⟨g, 0, none⟩) n cap)).run Ybaf.prog w = .ok (cellsOf B n).toArray w :=
  run_firstCells_some w 1 n ⟨g, 0, none⟩ n cap (cellsOf B n) (by rw [cellsOf_length, Nat.mul_one]) (fun j u hu => by
    have hj : j < n := by have := (List.getElem?_eq_some_iff.1 hu).1; rwa [cellsOf_length] at this
    rw [cellsOf_get? hj] at hu
    cases hu
    rw [Go.WideShapes.add_plain, Nat.zero_add]; exact h.at_ j hj)

/-- **'append(file, x...)'.** -/
theorem Row.append {w : World} {g cap n : Nat} {B : Nat → Int} (h : Row w g cap n B) {tx ty : TypeId} {x : Value} {m : Nat} {C : Nat → Int} (hs : Src Ybaf.prog 1 tx x m (cellsOf C m) w) (hb : n + m ≤ 140737488355328) :
    ∃ g' cap' w', (Builtin.append_ #[23, tx] ty #[.slice (some ⟨g, 0, none⟩) n cap, x]).run Ybaf.prog w = .ok (.slice (some ⟨g', 0, none⟩) (n + m) cap') w' ∧ Row w' g' cap' (n + m) (catB B n C) ∧ Hole g w.heap.size w w' ∧ (g' = g ∨ w.heap.size ≤ g') := by
  obtain ⟨i, hi, hz0, hz1, hz2⟩ := info_parts info5
  by_cases hroom : n + m ≤ cap
  · have hr := run_append_room_src (P := Ybaf.prog) w 23 tx ty 5 i Ybaf.underlying23 hi g 0 n cap x m (cellsOf C m) (by rw [hz1]; exact hs) hroom
      (fun j hj => by rw [cellsOf_length] at hj; rw [hz1]; exact h.room.there _ (by omega)) (fun j hj => h.room.free _)
    rw [hz1, Nat.mul_one, Nat.zero_add] at hr
    refine ⟨g, cap, _, hr, ?_, Hole.setCells _ _ _ _ _, .inl rfl⟩
    have := h.setCells n m C (Nat.le_refl _) hroom
    rw [show max n (n + m) = n + m by omega] at this
    refine this.congr (fun j hj => ?_)
    unfold catB
    by_cases e : j < n
    · rw [if_neg (by omega), if_pos e]
    · rw [if_pos (by omega), if_neg e]
  · have hold : (Builtin.firstCells i.size n (.slice (some ⟨g, 0, none⟩) n cap)).run Ybaf.prog w.drew = .ok (cellsOf B n).toArray w.drew := by
      rw [hz1]
      exact (show Row w.drew g cap n B from ⟨⟨h.room.lt, h.room.there, h.room.free⟩, h.le, h.at_⟩).first
    have hr := run_append_grow_src (P := Ybaf.prog) w 23 tx ty 5 i _ Ybaf.underlying23 hi hz0 (some ⟨g, 0, none⟩) n cap (cellsOf B n) hold x m (cellsOf C m) (by rw [hz1]; exact hs) (by omega) (by omega)
      (growslice_fits (by omega) (by rw [hz2]; omega))
    have hge := grownCap_ge w (n + m) cap 5
    generalize grownCap w (n + m) cap 5 = nc at *
    refine ⟨w.heap.size, nc, _, hr, ?_, Hole.of_below ((Below.refl _ _).drew.alloc (by simp) _), .inr (Nat.le_refl _)⟩
    have hblk : (w.drew.alloc (.cells ((cellsOf B n ++ cellsOf C m).toArray ++ Builtin.zeroCells (Value.int .u8 0).cells (nc - (n + m))) 5)).heap[w.heap.size]? = some (.cells ((cellsOf B n ++ cellsOf C m).toArray ++ Builtin.zeroCells (Value.int .u8 0).cells (nc - (n + m))) 5 (0, 0)) := heap_alloc_new w.drew _
    have hsz : ((cellsOf B n ++ cellsOf C m).toArray ++ Builtin.zeroCells (Value.int .u8 0).cells (nc - (n + m))).size = nc := by
      rw [Array.size_append, size_zeroCells]
      simp [cellsOf_length, Value.cells]
      omega
    refine ⟨⟨by simp [World.alloc], fun j hj => ?_, fun j => Joins.unfrozen_of_block hblk j⟩, hge, fun j hj => ?_⟩
    · rw [Joins.cell_of_block hblk, Array.getElem?_eq_getElem (by omega)]; rfl
    · rw [Joins.cell_of_block hblk, Array.getElem?_append_left (by simp [cellsOf_length]; omega)]
      simp only [List.getElem?_toArray]
      unfold catB
      by_cases e : j < n
      · rw [List.getElem?_append_left (by rw [cellsOf_length]; exact e), cellsOf_get? e, if_pos e]
      · rw [List.getElem?_append_right (by rw [cellsOf_length]; omega), cellsOf_length, cellsOf_get? (by omega), if_neg e]
end Go.Proofs.YbulkclmFmt
