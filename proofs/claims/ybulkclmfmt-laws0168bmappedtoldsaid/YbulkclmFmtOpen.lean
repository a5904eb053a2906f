import Derived.Test.YbulkclmFmtFile
import Derived.Test.YbulkclmFmtLaid
import Derived.OpenShut
import Derived.OpenVars
import Derived.Deep.Slices
import Derived.ChangeOld
import Derived.LaidEql
namespace Go.Proofs.YbulkclmFmt
open Go.ChangeShapes Go.WideShapes Go.ChangeAt Go.RowKit Go.Deep
set_option linter.unusedVariables false

theorem own : ownKnob Ybaf.prog.godebug = none := by kernel_rfl
theorem laidOut : laidOutB Ybaf.prog = true := by kernel_rfl
theorem cells9 : Ybaf.prog.cellsOf 9 = 1 := by kernel_rfl
theorem cells5 : Ybaf.prog.cellsOf 5 = 1 := by kernel_rfl

theorem open_strs {H : Type} {enc : TypeId × Value → H} {W : World} {a : Option Addr} {len cap : Nat} {d : DataW H} {p : List MemPlace}
    (h : DataW.Trod enc Ybaf.prog W 0 (fun _ => true) true 22 (.slice a len cap) d p) : ∃ Ks, StrRow W a len Ks := by
  obtain ⟨fuel, hf⟩ := h
  rcases open_slice1 Ybaf.underlying22 cells9 hf with ⟨hcs, _⟩ | ⟨x, l, c, m, k, V, D, Pl, hcs, _, hl, hm, hmm, _, hx⟩
  · simp [Value.cells] at hcs
    exact ⟨fun _ => ⟨#[]⟩, .inl hcs.2.1⟩
  · simp [Value.cells] at hcs
    obtain ⟨rfl, rfl, rfl⟩ := hcs
    simp at hmm
    subst hmm
    rcases Nat.eq_zero_or_pos len with h0 | h0
    · exact ⟨fun _ => ⟨#[]⟩, .inl h0⟩
    have each : ∀ i, i < m → ∃ u : ByteArray, W.cell? (x.add i) = some (.string u) := by
      intro i hi
      obtain ⟨h1, h2⟩ := hx i hi
      obtain ⟨z, u0, _⟩ := DataW.trod_string Ybaf.underlying9 h2
      simp at u0
      exact ⟨z, by rw [← u0]; exact h1⟩
    obtain ⟨f, hf2⟩ := choose_lt each
    obtain ⟨b, off, spot⟩ := x
    have hspot : spot = none := by simpa [Addr.add] using World.cell?_spot (hf2 0 (by omega))
    subst hspot
    have hlt : b < W.heap.size := World.block_lt_of_cell? W _ (hf2 0 (by omega))
    exact ⟨f, .inr ⟨b, off, rfl, hlt, fun j hj => by rw [← Go.WideShapes.add_plain]; exact hf2 j (by omega)⟩⟩

theorem open_bytes {H : Type} {enc : TypeId × Value → H} {W : World} {a : Option Addr} {len cap : Nat} {d : DataW H} {p : List MemPlace}
    (h : DataW.Trod enc Ybaf.prog W 0 (fun _ => true) true 23 (.slice a len cap) d p) : len ≤ cap ∧ ∃ K, Byt K ∧ Sl W a len K := by
  obtain ⟨fuel, hf⟩ := h
  rcases open_slice1 Ybaf.underlying23 cells5 hf with ⟨hcs, _⟩ | ⟨x, l, c, m, k, V, D, Pl, hcs, _, hl, hm, hmm, _, hx⟩
  · simp [Value.cells] at hcs
    exact ⟨by omega, fun _ => 0, fun _ => ⟨Int.le_refl 0, show (0 : Int) < 256 by decide⟩, .inl hcs.2.1⟩
  · simp [Value.cells] at hcs
    obtain ⟨rfl, rfl, rfl⟩ := hcs
    simp at hmm
    subst hmm
    refine ⟨by omega, ?_⟩
    rcases Nat.eq_zero_or_pos len with h0 | h0
    · exact ⟨fun _ => 0, fun _ => ⟨Int.le_refl 0, show (0 : Int) < 256 by decide⟩, .inl h0⟩
    have each : ∀ i, i < m → ∃ u : Int, W.cell? (x.add i) = some (.int .u8 u) ∧ 0 ≤ u ∧ u < 256 := by
      intro i hi
      obtain ⟨h1, h2⟩ := hx i hi
      obtain ⟨z, u0, _, wz⟩ := DataW.trod_int Ybaf.underlying5 h2
      simp at u0
      have bz := bounds_u8 wz
      exact ⟨z, by rw [← u0]; exact h1, by omega, by omega⟩
    obtain ⟨f, hf2⟩ := choose_lt each
    obtain ⟨b, off, spot⟩ := x
    have hspot : spot = none := by simpa [Addr.add] using World.cell?_spot (hf2 0 (by omega)).1
    subst hspot
    refine ⟨fun j => if j < m then f j else 0, fun j => ?_, .inr ⟨b, off, rfl, fun j hj => ?_⟩⟩
    · show 0 ≤ (if j < m then f j else 0) ∧ (if j < m then f j else 0) < 256
      by_cases e : j < m
      · rw [if_pos e]; exact (hf2 j e).2
      · rw [if_neg e]; exact ⟨by omega, by omega⟩
    · rw [Nat.zero_add]
      have := (hf2 j (by omega)).1
      rw [Go.WideShapes.add_plain] at this
      rw [this]
      simp only
      rw [if_pos (by omega)]

theorem star : "*" ++ "errors.errorString" = "*errors.errorString" := by decide
theorem row95 (u : TypeId) (h : Ybaf.prog.typeName? 3 u = some "*errors.errorString") : u = 95 :=
  typeName_ptr_named (nm := "errors.errorString") (by rw [star]; kernel_rfl) (by kernel_rfl) (by decide) u (by rw [star]; exact h)

/-- What the listed variables hold as the call begins. -/
theorem laid_cells {W : World} (h : laidMet Ybaf.prog laidAll W) : (∃ a, W.cell? ⟨1, 0, none⟩ = some (.iface 95 (.pointer (some a)))) ∧ W.cell? ⟨3, 0, none⟩ = some (.int .u32 33) := by
  obtain ⟨a, s, hv, hc, hs, _⟩ := laid_sentinel (g := 1) (h.tail.tail.tail : laidMet Ybaf.prog [("example.com/hashlith/hashlith.ErrNotFound", Rows.laid_example_com_hashlith_hashlith_ErrNotFound)] W) (by kernel_rfl) (by kernel_rfl) Ybaf.underlying28 row95 Ybaf.underlying95 Ybaf.underlying97 rfl rfl Ybaf.underlying9 (by kernel_rfl) (by kernel_rfl)
  refine ⟨⟨a, ?_⟩, ?_⟩
  · have hg : Ybaf.prog.globalNamed "example.com/hashlith/hashlith.ErrNotFound" = some 1 := by kernel_rfl
    simpa using World.var?_cell hg hv 0
  · obtain ⟨g, t, cs, fuel, p, h1, h2, h3, h4⟩ := Go.Lib.laidMet.reads h (n := "example.com/hashlith/hashlith.hashFactor") (d := Rows.laid_example_com_hashlith_hashlith_hashFactor) (by simp [laidAll, Rows.lawS0168BReaderRow])
    have hg : Ybaf.prog.globalNamed "example.com/hashlith/hashlith.hashFactor" = some 3 := by kernel_rfl
    obtain rfl := Option.some.inj (hg.symm.trans h1)
    have ht : (Ybaf.prog.globals[3]?).map (·.type) = some 39 := by kernel_rfl
    obtain rfl := Option.some.inj (ht.symm.trans h2)
    obtain ⟨z, e, hd, _⟩ := DataW.trod_int Ybaf.underlying39 h4
    have hz : z = 33 := by
      have := congrArg Prod.fst hd
      simp [Rows.laid_example_com_hashlith_hashlith_hashFactor] at this
      exact this.symm
    subst hz
    have hcs : cs = #[.int .u32 33] := by cases cs; simp_all
    subst hcs
    simpa using World.var?_cell hg h3 0

theorem cmp_same (a : Addr) (w : World) : (binOp .neq 28 (.iface 95 (.pointer (some a))) (.iface 95 (.pointer (some a)))).run Ybaf.prog w = .ok (.bool false) w := by
  have h1 : (Ybaf.prog.info? 95).map (·.comparable) = some true := by kernel_rfl
  have h2 : (Ybaf.prog.info? 97).map (·.size) = some 1 := by kernel_rfl
  obtain ⟨i, hi, hc⟩ := Option.map_eq_some_iff.1 h1
  obtain ⟨j, hj, _⟩ := Option.map_eq_some_iff.1 h2
  simp only [binOp]
  simp [Op.equal, Op.maxDepth, run_equalIn_iface_ptr_same w 9998 a Ybaf.underlying28 Ybaf.underlying95 hi hc hj]
end Go.Proofs.YbulkclmFmt
