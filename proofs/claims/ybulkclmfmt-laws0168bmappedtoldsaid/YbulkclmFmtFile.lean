import Derived.Test.YbulkclmFmtSmall
import Derived.Test.YbulkclmFmtPlain
import Derived.Deep.OwnRows
namespace Go.Proofs.YbulkclmFmt
open Go.ChangeShapes Go.WideShapes Go.ChangeAt Go.RowKit
set_option linter.unusedVariables false

/-- A slice of strings that came in. -/
def StrRow (w : World) (a : Option Addr) (n : Nat) (Ks : Nat → ByteArray) : Prop :=
  n = 0 ∨ ∃ b off, a = some ⟨b, off, none⟩ ∧ b < w.heap.size ∧ ∀ j, j < n → w.cell? ⟨b, off + j, none⟩ = some (.string (Ks j))

/-- A row of uint32 of the call's own. -/
structure URow (w : World) (g n : Nat) (F : Nat → Int) : Prop where
  room : g < w.heap.size
  free : ∀ j, w.frozen? ⟨g, j, none⟩ = false
  at_ : ∀ j, j < n → w.cell? ⟨g, j, none⟩ = some (.int .u32 (F j))

theorem info39 : (Ybaf.prog.info? 39).map (fun i => (i.zero, i.size, i.bytes)) = some (some (.int .u32 0), 1, 4) := by kernel_rfl
theorem info5' : (Ybaf.prog.info? 5).map (fun i => (i.zero, i.size, i.bytes)) = some (some (.int .u8 0), 1, 1) := by kernel_rfl

def Z50 : Array Value := Array.replicate 256 (.int .u32 0)
theorem zv50 (w : World) : (zeroValue 50).run Ybaf.prog w = .ok (.agg Z50) w := by kernel_rfl
theorem Z50_size : Z50.size = 256 := by simp [Z50]
theorem Z50_get {j : Nat} (h : j < 256) : Z50[j]? = some (.int .u32 0) := by simp [Z50, h]

theorem URow.hole {w w' : World} {g n k N : Nat} {F : Nat → Int} (h : URow w g n F) (hh : Hole k N w w') (h1 : g < N) (h2 : g ≠ k) : URow w' g n F :=
  ⟨Nat.lt_of_lt_of_le h.room hh.size, fun j => by rw [hh.frozen (p := ⟨g, j, none⟩) h1 h2]; exact h.free j, fun j hj => by rw [hh.cell (p := ⟨g, j, none⟩) h1 h2]; exact h.at_ j hj⟩
theorem URow.later {w w' : World} {g n : Nat} {F : Nat → Int} (h : URow w g n F) (hb : Below w.heap.size w w') : URow w' g n F := h.hole (Hole.of_below (k := w.heap.size) hb) h.room (Nat.ne_of_lt h.room)
theorem URow.congr {w : World} {g n : Nat} {F G : Nat → Int} (h : URow w g n F) (e : ∀ j, j < n → F j = G j) : URow w g n G := ⟨h.room, h.free, fun j hj => by rw [← e j hj]; exact h.at_ j hj⟩
theorem URow.setCell {w : World} {g n : Nat} {F : Nat → Int} (h : URow w g n F) (j : Nat) (hj : j < n) (x : Int) : URow (w.setCell ⟨g, j, none⟩ (.int .u32 x)) g n (fun k => if k = j then x else F k) :=
  ⟨by simp [World.setCell]; exact h.room, fun i => by rw [World.frozen?_setCell]; exact h.free i, fun i hi => by
    by_cases e : i = j
    · subst e
      rw [World.cell?_setCell_same _ _ _ (h.at_ i hi), if_pos rfl]
    · rw [World.cell?_setCell_other _ _ _ _ (by simp <;> omega), if_neg e]; exact h.at_ i hi⟩
theorem URow.of_block {w : World} {g n : Nat} {cs : Array Value} {t : TypeId} (h : w.heap[g]? = some (.cells cs t (0, 0))) (hc : ∀ j, j < n → cs[j]? = some (.int .u32 0)) : URow w g n (fun _ => 0) :=
  ⟨(Array.getElem?_eq_some_iff.1 h).1, fun j => Joins.unfrozen_of_block h j, fun j hj => by rw [Joins.cell_of_block h]; exact hc j hj⟩

/-- The file while it is built. -/
structure Bld (w0 w : World) (s n g cap m : Nat) (B : Nat → Int) (F G C : Nat → Int) : Prop where
  row : Row w g cap m B
  byt : Byt B
  rp : URow w (s + 1) n F
  hs : URow w (s + 2) n G
  ct : URow w (s + 3) 256 C
  bel : Below s w0 w
  gd : g = s ∨ s + 4 ≤ g
  sz : s + 4 ≤ w.heap.size
  sle : s ≤ w0.heap.size

theorem Bld.step {w0 w w' : World} {s n g cap m g' cap' m' : Nat} {B B' : Nat → Int} {F G C : Nat → Int} (h : Bld w0 w s n g cap m B F G C) (hh : Hole g w.heap.size w w') (hr : Row w' g' cap' m' B') (hb : Byt B') (hg : g' = g ∨ w.heap.size ≤ g') : Bld w0 w' s n g' cap' m' B' F G C := by
  have := h.gd
  have hs := h.sz
  refine ⟨hr, hb, h.rp.hole hh (by omega) (by omega), h.hs.hole hh (by omega) (by omega), h.ct.hole hh (by omega) (by omega), h.bel.trans (hh.below (by omega) (by omega)), ?_, Nat.le_trans h.sz hh.size, h.sle⟩
  rcases hg with rfl | hg
  · exact h.gd
  · right; omega
theorem Bld.later {w0 w w' : World} {s n g cap m : Nat} {B : Nat → Int} {F G C : Nat → Int} (h : Bld w0 w s n g cap m B F G C) (hb : Below w.heap.size w w') : Bld w0 w' s n g cap m B F G C :=
  ⟨h.row.later hb, h.byt, h.rp.later hb, h.hs.later hb, h.ct.later hb, h.bel.trans (hb.mono (by have := h.sz; omega)), h.gd, Nat.le_trans h.sz hb.size, h.sle⟩
theorem Bld.setF {w0 w : World} {s n g cap m : Nat} {B : Nat → Int} {F G C : Nat → Int} (h : Bld w0 w s n g cap m B F G C) (j : Nat) (hj : j < n) (x : Int) : Bld w0 (w.setCell ⟨s + 1, j, none⟩ (.int .u32 x)) s n g cap m B (fun k => if k = j then x else F k) G C := by
  have := h.gd
  have hs := h.sz
  have hh := Hole.setCell (s + 1) w.heap.size j w (.int .u32 x)
  exact ⟨h.row.hole hh h.row.room.lt (by omega), h.byt, h.rp.setCell j hj x, h.hs.hole hh (by omega) (by omega), h.ct.hole hh (by omega) (by omega), h.bel.trans (hh.below (by omega) (by omega)), h.gd, Nat.le_trans h.sz hh.size, h.sle⟩
theorem Bld.setG {w0 w : World} {s n g cap m : Nat} {B : Nat → Int} {F G C : Nat → Int} (h : Bld w0 w s n g cap m B F G C) (j : Nat) (hj : j < n) (x : Int) : Bld w0 (w.setCell ⟨s + 2, j, none⟩ (.int .u32 x)) s n g cap m B F (fun k => if k = j then x else G k) C := by
  have := h.gd
  have hs := h.sz
  have hh := Hole.setCell (s + 2) w.heap.size j w (.int .u32 x)
  exact ⟨h.row.hole hh h.row.room.lt (by omega), h.byt, h.rp.hole hh (by omega) (by omega), h.hs.setCell j hj x, h.ct.hole hh (by omega) (by omega), h.bel.trans (hh.below (by omega) (by omega)), h.gd, Nat.le_trans h.sz hh.size, h.sle⟩
theorem Bld.setC {w0 w : World} {s n g cap m : Nat} {B : Nat → Int} {F G C : Nat → Int} (h : Bld w0 w s n g cap m B F G C) (j : Nat) (hj : j < 256) (x : Int) : Bld w0 (w.setCell ⟨s + 3, j, none⟩ (.int .u32 x)) s n g cap m B F G (fun k => if k = j then x else C k) := by
  have := h.gd
  have hs := h.sz
  have hh := Hole.setCell (s + 3) w.heap.size j w (.int .u32 x)
  exact ⟨h.row.hole hh h.row.room.lt (by omega), h.byt, h.rp.hole hh (by omega) (by omega), h.hs.hole hh (by omega) (by omega), h.ct.setCell j hj x, h.bel.trans (hh.below (by omega) (by omega)), h.gd, Nat.le_trans h.sz hh.size, h.sle⟩
theorem Bld.drew {w0 w : World} {s n g cap m : Nat} {B : Nat → Int} {F G C : Nat → Int} (h : Bld w0 w s n g cap m B F G C) : Bld w0 w.drew s n g cap m B F G C := h.later (Below.refl _ _).drew
theorem StrRow.below {w w' : World} {a : Option Addr} {n : Nat} {Ks : Nat → ByteArray} (h : StrRow w a n Ks) (hb : Below w.heap.size w w') : StrRow w' a n Ks := by
  rcases h with h | ⟨b, off, rfl, hlt, hc⟩
  · exact .inl h
  · exact .inr ⟨b, off, rfl, Nat.lt_of_lt_of_le hlt hb.size, fun j hj => (hb.cell (p := ⟨b, off + j, none⟩) hlt).trans (hc j hj)⟩

/-- The bytes when a record is laid at p. -/
def recB (B : Nat → Int) (p : Nat) (K V : ByteArray) : Nat → Int :=
  catB (catB (catB (catB B p (bytes4 K.size)) (p + 4) (bytes4 V.size)) (p + 8) (strB K)) (p + 8 + K.size) (strB V)
theorem recB_old {B : Nat → Int} {p : Nat} {K V : ByteArray} {j : Nat} (h : j < p) : recB B p K V j = B j := by
  unfold recB catB
  rw [if_pos (by omega), if_pos (by omega), if_pos (by omega), if_pos (by omega)]
theorem recB_byt {B : Nat → Int} (hB : Byt B) (p : Nat) (K V : ByteArray) : Byt (recB B p K V) := catB_byt (catB_byt (catB_byt (catB_byt hB (bytes4_byt _) _) (bytes4_byt _) _) (strB_byt _) _) (strB_byt _) _
theorem le32_congr {B C : Nat → Int} {p : Nat} (h : ∀ j, j < 4 → B (p + j) = C (p + j)) : le32 B p = le32 C p := by
  unfold le32
  have h0 := h 0 (by omega)
  have h1 := h 1 (by omega)
  have h2 := h 2 (by omega)
  have h3 := h 3 (by omega)
  rw [Nat.add_zero] at h0
  rw [h0, h1, h2, h3]
theorem le32_at {B : Nat → Int} {p : Nat} {v : Int} (h0 : 0 ≤ v) (h1 : v < 4294967296) (h : ∀ j, j < 4 → B (p + j) = bytes4 v j) : le32 B p = v := by
  have e := le32_bytes4 h0 h1
  unfold le32 at e ⊢
  have a0 := h 0 (by omega)
  have a1 := h 1 (by omega)
  have a2 := h 2 (by omega)
  have a3 := h 3 (by omega)
  rw [Nat.add_zero] at a0
  rw [a0, a1, a2, a3]
  exact e
theorem recB_ok {B : Nat → Int} {p : Nat} {K V : ByteArray} (hK : K.size < 4294967296) (hV : V.size < 4294967296) : RecOK (recB B p K V) (p + 8 + K.size + V.size) p K V := by
  refine ⟨le32_at (by omega) (by omega) (fun j hj => ?_), le32_at (by omega) (by omega) (fun j hj => ?_), fun j hj => ?_, fun j hj => ?_, Nat.le_refl _⟩
  · unfold recB catB
    rw [if_pos (by omega), if_pos (by omega), if_pos (by omega), if_neg (by omega)]
    congr 1; omega
  · unfold recB catB
    rw [if_pos (by omega), if_pos (by omega), if_neg (by omega)]
    congr 1; omega
  · unfold recB catB
    rw [if_pos (by omega), if_neg (by omega)]
    congr 1; omega
  · unfold recB catB
    rw [if_neg (by omega)]
    congr 1; omega
theorem RecOK.congr {B C : Nat → Int} {N M p : Nat} {K V : ByteArray} (h : RecOK B N p K V) (e : ∀ j, p ≤ j → j < p + 8 + K.size + V.size → C j = B j) (hM : p + 8 + K.size + V.size ≤ M) : RecOK C M p K V :=
  ⟨by rw [← h.kl]; exact le32_congr (fun j hj => e _ (by omega) (by omega)), by rw [← h.vl]; exact le32_congr (fun j hj => e _ (by omega) (by omega)), fun j hj => by rw [e _ (by omega) (by omega)]; exact h.kb j hj, fun j hj => by rw [e _ (by omega) (by omega)]; exact h.vb j hj, hM⟩
end Go.Proofs.YbulkclmFmt
