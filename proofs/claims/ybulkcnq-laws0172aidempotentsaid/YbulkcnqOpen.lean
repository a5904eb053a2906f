import Derived.Test.YbulkcnqBuild
import Derived.OpenShut
import Derived.Deep.Slices
import Derived.ChangeOld
namespace Go.Proofs.Ybulkcnq
open Go.ChangeShapes Go.WideShapes Go.ChangeAt Go.RowKit Go.Deep
set_option linter.unusedVariables false

theorem own : ownKnob Yba.prog.godebug = none := by kernel_rfl
theorem laidOut : laidOutB Yba.prog = true := by kernel_rfl
theorem cells37 : Yba.prog.cellsOf 37 = 3 := by kernel_rfl
theorem cells23 : Yba.prog.cellsOf 23 = 1 := by kernel_rfl
theorem cells3 : Yba.prog.cellsOf 3 = 1 := by kernel_rfl

theorem bounds_u16' {n : Int} (h : (Lit.int .u16 n).wf = true) : 0 ≤ n ∧ n ≤ 65535 := bounds_u16 h

/-- The slice of plain nodes that came in: nil, or a row of triples. -/
theorem open_nodes {H : Type} {enc : TypeId × Value → H} {W : World} {a : Option Addr} {len cap : Nat} {d : DataW H} {p : List MemPlace}
    (h : DataW.Trod enc Yba.prog W 0 (fun _ => true) true 22 (.slice a len cap) d p) :
    len = 0 ∨ ∃ b off pp Q X, a = some ⟨b, off, none⟩ ∧ Came W b off len pp Q X := by
  obtain ⟨fuel, hf⟩ := h
  rcases open_slice Yba.underlying22 hf with ⟨hcs, _⟩ | ⟨x, l, c, m, k, D, Pl, hcs, _, hl, hm, hmm, _, hx⟩
  · simp [Value.cells] at hcs
    exact .inl hcs.2.1
  · simp [Value.cells] at hcs
    obtain ⟨rfl, rfl, rfl⟩ := hcs
    simp at hmm
    subst hmm
    rcases Nat.eq_zero_or_pos len with h0 | h0
    · exact .inl h0
    right
    rw [cells37] at hx
    have each : ∀ i, i < m → ∃ q : Nat × Int × Int, W.cell? (x.add (i * 3)) = some (.int .u16 q.1) ∧ q.1 < 65536 ∧ W.cell? (x.add (i * 3 + 1)) = some (.int .i64 q.2.1) ∧ W.cell? (x.add (i * 3 + 2)) = some (.int .i64 q.2.2) := by
      intro i hi
      obtain ⟨cs', h1, h2⟩ := hx i hi
      obtain ⟨_, hlen, hcell⟩ := World.cells?_some h1
      obtain ⟨xs, n', _, _, _, hxl, hf'⟩ := DataW.trod_struct Yba.underlying37 h2
      match xs, hxl, cs', hlen with
      | [y0, y1, y2], _, [v0, v1, v2], _ =>
        have g0 := hf' 0 _ rfl
        have g1 := hf' 1 _ rfl
        have g2 := hf' 2 _ rfl
        simp [cells23, cells3] at g0 g1 g2
        obtain ⟨z0, u0, _, wz⟩ := DataW.trod_int Yba.underlying23 g0
        obtain ⟨z1, u1, _, _⟩ := DataW.trod_int Yba.underlying3 g1
        obtain ⟨z2, u2, _, _⟩ := DataW.trod_int Yba.underlying3 g2
        simp at u0 u1 u2
        subst u0 u1 u2
        have bz := bounds_u16' wz
        have e0 := hcell 0 (by omega)
        have e1 := hcell 1 (by omega)
        have e2 := hcell 2 (by omega)
        rw [add_add] at e0 e1 e2
        refine ⟨(z0.toNat, z1, z2), ?_, by show z0.toNat < 65536; omega, by simpa using e1, by simpa using e2⟩
        have : ((z0.toNat : Nat) : Int) = z0 := by omega
        show _ = some (Value.int .u16 ((z0.toNat : Nat) : Int))
        rw [this]; simpa using e0
    obtain ⟨f, hf2⟩ := choose_lt each
    obtain ⟨b, off, spot⟩ := x
    have hspot : spot = none := by simpa [Addr.add] using World.cell?_spot (hf2 0 (by omega)).1
    subst hspot
    have hlt : b < W.heap.size := World.block_lt_of_cell? W _ (hf2 0 (by omega)).1
    refine ⟨b, off, fun j => (f j).1, fun j => (f j).2.1, fun j => (f j).2.2, rfl, ⟨hlt, ?_, ?_, ?_⟩⟩
    · intro j hj
      have := hf2 j (by omega)
      exact ⟨by rw [← Go.WideShapes.add_plain]; exact this.1, this.2.1⟩
    · intro j hj
      have := hf2 j (by omega)
      rw [Nat.add_assoc, ← Go.WideShapes.add_plain]; exact this.2.2.1
    · intro j hj
      have := hf2 j (by omega)
      rw [Nat.add_assoc, ← Go.WideShapes.add_plain]; exact this.2.2.2
end Go.Proofs.Ybulkcnq
