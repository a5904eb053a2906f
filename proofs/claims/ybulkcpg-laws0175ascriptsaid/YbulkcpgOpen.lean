import Derived.Test.YbulkcpgRows
import Derived.WalkKit
import Derived.ProofKit
import Derived.OpenShut
import Derived.ShutString
import Derived.ChangeOld
import Derived.Below
import Derived.Lib.SmallJoins
namespace Go.Proofs.Ybulkcpg
open Go.ChangeShapes Go.WideShapes Go.ChangeAt Go.RowKit Go.Joins
set_option linter.unusedVariables false

theorem own : ownKnob Yba.prog.godebug = none := by kernel_rfl
theorem laidOut : laidOutB Yba.prog = true := by kernel_rfl
theorem cells24 : Yba.prog.cellsOf 24 = 8 := by kernel_rfl
theorem cells22 : Yba.prog.cellsOf 22 = 1 := by kernel_rfl
theorem cells4 : Yba.prog.cellsOf 4 = 1 := by kernel_rfl

theorem array8 {α : Type} {cs : Array α} (h : cs.size = 8) : ∃ c0 c1 c2 c3 c4 c5 c6 c7, cs = #[c0, c1, c2, c3, c4, c5, c6, c7] := by
  obtain ⟨l⟩ := cs
  match l, h with
  | [c0, c1, c2, c3, c4, c5, c6, c7], _ => exact ⟨c0, c1, c2, c3, c4, c5, c6, c7, rfl⟩

theorem list8 {α : Type} {cs : List α} (h : cs.length = 8) : ∃ c0 c1 c2 c3 c4 c5 c6 c7, cs = [c0, c1, c2, c3, c4, c5, c6, c7] := by
  match cs, h with
  | [c0, c1, c2, c3, c4, c5, c6, c7], _ => exact ⟨c0, c1, c2, c3, c4, c5, c6, c7, rfl⟩

/-- The plain struct that came in: four bools, four uint32. -/
theorem open_state {H : Type} {enc : TypeId × Value → H} {W : World} {base b0 : Nat} {spare : Nat → Bool} {held : Bool} {r : Reach} {v : Value} {d : DataW H} {p : List MemPlace}
    (hv : Value.okWide Yba.prog W r b0 24 v) (h : DataW.Trod enc Yba.prog W base spare held 24 v d p) :
    ∃ (x0 x1 x2 x3 : Bool) (n0 n1 n2 n3 : Int), v = .agg #[.bool x0, .int .u32 n0, .bool x1, .int .u32 n1, .bool x2, .int .u32 n2, .bool x3, .int .u32 n3] ∧ 0 ≤ n2 ∧ n2 < 4294967296 := by
  obtain ⟨cs, rfl, hsz⟩ := okWide_struct Yba.underlying24 hv
  obtain ⟨c0, c1, c2, c3, c4, c5, c6, c7, rfl⟩ := array8 (hsz.trans cells24)
  obtain ⟨fuel, hf⟩ := h
  obtain ⟨xs, n, _, _, _, hl, hx⟩ := DataW.trod_struct Yba.underlying24 hf
  obtain ⟨y0, y1, y2, y3, y4, y5, y6, y7, rfl⟩ := list8 hl
  have k0 := hx 0 _ rfl
  have k1 := hx 1 _ rfl
  have k2 := hx 2 _ rfl
  have k3 := hx 3 _ rfl
  have k4 := hx 4 _ rfl
  have k5 := hx 5 _ rfl
  have k6 := hx 6 _ rfl
  have k7 := hx 7 _ rfl
  simp [Value.cells, cells4, cells22] at k0 k1 k2 k3 k4 k5 k6 k7
  obtain ⟨x0, e0, _⟩ := DataW.trod_bool Yba.underlying4 k0
  obtain ⟨n0, e1, _, _⟩ := DataW.trod_int Yba.underlying22 k1
  obtain ⟨x1, e2, _⟩ := DataW.trod_bool Yba.underlying4 k2
  obtain ⟨n1, e3, _, _⟩ := DataW.trod_int Yba.underlying22 k3
  obtain ⟨x2, e4, _⟩ := DataW.trod_bool Yba.underlying4 k4
  obtain ⟨n2, e5, _, w5⟩ := DataW.trod_int Yba.underlying22 k5
  obtain ⟨x3, e6, _⟩ := DataW.trod_bool Yba.underlying4 k6
  obtain ⟨n3, e7, _, _⟩ := DataW.trod_int Yba.underlying22 k7
  simp at e0 e1 e2 e3 e4 e5 e6 e7
  subst e0 e1 e2 e3 e4 e5 e6 e7
  have := bounds_u32 w5
  exact ⟨x0, x1, x2, x3, n0, n1, n2, n3, rfl, by omega, by omega⟩

end Go.Proofs.Ybulkcpg
