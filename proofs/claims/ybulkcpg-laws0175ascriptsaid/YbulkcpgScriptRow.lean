import Derived.Test.YbulkcpgRows
import Derived.Test.YbulkcpgScript
import Derived.Test.YbulkcpgOpen
import Derived.WalkKit
import Derived.ProofKit
import Derived.OpenShut
import Derived.ChangeOld
import Derived.Below
namespace Go.Proofs.Ybulkcpg
open Go.ChangeShapes Go.WideShapes Go.ChangeAt Go.RowKit
set_option linter.unusedVariables false

/-- What the walk is told of a slice of integers that came in. -/
def IsRow (k : IntKind) (w : World) (a : Option Addr) (len cap : Nat) (zs : List Int) : Prop :=
  (a = none ∧ len = 0 ∧ cap = 0 ∧ zs = []) ∨
  ∃ x, a = some x ∧ len ≤ cap ∧ cap ≤ maxLen ∧ zs.length = cap ∧ (∀ i, i < zs.length → w.cell? (x.add i) = some (.int k (zs.getD i 0))) ∧ ∀ n ∈ zs, (Lit.int k n).wf = true

theorem script_any (x0 x1 x2 x3 : Bool) (n0 n1 n2 n3 : Int) (a : Option Addr) (len cap : Nat) (zs : List Int) (w : World) (g0 : 0 ≤ n2) (g1 : n2 < 4294967296) (hr : IsRow .u32 w a len cap zs) :
    Calls Yba.prog 4 #[.agg #[.bool x0, .int .u32 n0, .bool x1, .int .u32 n1, .bool x2, .int .u32 n2, .bool x3, .int .u32 n3], .slice a len cap] w fun e w' => e = .returned (.bool true) ∧ Below w.heap.size w w' := by
  rcases hr with ⟨rfl, rfl, rfl, rfl⟩ | ⟨x, rfl, hl, hm, hz, hcell, hwf⟩
  · exact script_nil x0 x1 x2 x3 n0 n1 n2 n3 none 0 w
  · rcases Nat.lt_or_ge 1024 len with hlong | hlen
    · exact script_long x0 x1 x2 x3 n0 n1 n2 n3 (some x) len cap w hlong
    · rcases Nat.eq_zero_or_pos len with h0 | h0
      · subst h0; exact script_nil x0 x1 x2 x3 n0 n1 n2 n3 (some x) cap w
      · obtain ⟨b, off, rfl, hc⟩ := ints_at hcell (by omega)
        have hb : b < w.heap.size := by
          have h1 := hc 0 (by omega)
          rcases Nat.lt_or_ge b w.heap.size with h' | h'
          · exact h'
          · unfold World.cell? at h1; rw [Array.getElem?_eq_none h'] at h1; cases h1
        refine script_cons x0 x1 x2 x3 n0 n1 n2 n3 b off len cap zs w g0 g1 hlen hb ?_
        intro k hk
        have hk' : k < zs.length := by omega
        have hmem : zs.getD k 0 ∈ zs := by
          rw [List.getD_eq_getElem?_getD, List.getElem?_eq_getElem hk']; exact List.getElem_mem hk'
        have := bounds_u32 (hwf _ hmem)
        exact ⟨hc k hk', by omega, by omega⟩

set_option maxRecDepth 100000 in
theorem script_lifted (os : Os) (started : os.Started) (H : Type) (enc : TypeId × Value → H) :
    ReturnsInHanded {} Yba.checked os 4 .any (Rows.lawS0175AScriptSpec.pre6 enc Yba.prog Yba.f4 Rows.lawS0175AScriptRow.domain false) (Rows.lawS0175AScriptSpec.post enc Yba.prog Yba.f4 false true false false) := by
  refine returnsInHanded_of_change (C := Yba.checked) own started (by kernel_rfl) Yba.func4
    (ChangeSpec.witness6 (enc := enc) (C := Yba.checked) false ⟨#[], #[.agg #[.bool false, .int .u32 0, .bool false, .int .u32 0, .bool false, .int .u32 0, .bool false, .int .u32 0], .slice none 0 0], []⟩ 8 (by kernel_rfl) (by kernel_rfl) (by kernel_rfl) (by kernel_rfl)) ?_
  intro W base args ds gs before hval0 hW hcnd _
  have hval : ∀ (j : Nat) t v, Yba.f4.params[j]? = some t → args[j]? = some v → Value.okWide Yba.prog W .any base t v := hval0
  have hW' := hW
  obtain ⟨p, q, hA0, hV, rfl, hfz, hnd⟩ := hW
  have hA : DataW.TrodAll enc Yba.prog W 0 (fun _ => true) true Yba.f4.params.toList args.toList ds p := hA0
  rw [Yba.params4] at hA hval
  obtain ⟨v0, vs0, d0, ds0, p0, q0, hargs, rfl, rfl, h0, r0⟩ := trodAll_cons hA
  obtain ⟨v1, vs1, d1, ds1, p1, q1, rfl, rfl, rfl, h1, r1⟩ := trodAll_cons r0
  obtain ⟨rfl, rfl, rfl⟩ := trodAll_nil r1
  obtain rfl : args = #[v0, v1] := by cases args; simp_all
  obtain ⟨rfl, rfl⟩ := trodVars_none hV
  have k0 := h0
  have lt0 : ∀ x ∈ p0, x.block < W.heap.size := by obtain ⟨m, hm⟩ := k0; exact DataW.trod_lt m _ _ _ hm
  obtain ⟨x0, x1, x2, x3, n0, n1, n2, n3, rfl, bn0, bn1⟩ := open_state (hval 0 24 v0 rfl rfl) h0
  obtain ⟨a1, len1, cap1, rfl⟩ := okWide_slice Yba.underlying30 (hval 1 30 v1 rfl rfl)
  have k1 := h1
  have lt1 : ∀ x ∈ p1, x.block < W.heap.size := by obtain ⟨m, hm⟩ := k1; exact DataW.trod_lt m _ _ _ hm
  obtain ⟨z1, w1⟩ : ∃ zs, IsRow .u32 W a1 len1 cap1 zs := by
    obtain ⟨fuel, hf⟩ := h1
    rcases open_ints Yba.underlying30 Yba.underlying22 (by kernel_rfl) hf with ⟨hcs, _⟩ | ⟨x, l, c, zs, hcs, _, hl, hm, hz, _, hcell, hwz⟩
    · simp [Value.cells] at hcs
      obtain ⟨rfl, rfl, rfl⟩ := hcs
      exact ⟨[], .inl ⟨rfl, rfl, rfl, rfl⟩⟩
    · simp [Value.cells] at hcs
      obtain ⟨rfl, rfl, rfl⟩ := hcs
      exact ⟨zs, .inr ⟨_, rfl, hl, hm, by simpa using hz, hcell, hwz⟩⟩
  clear hA0 hval0
  refine (script_any x0 x1 x2 x3 n0 n1 n2 n3 a1 len1 cap1 z1 W bn0 bn1 w1).mono fun e W' ⟨he, bel⟩ => ?_
  subst he
  exact ⟨_, rfl, _, _, _, [], _, [], hW', trodAll_mk1 (shut_bool Yba.underlying4 _), (trodAll_cons_mk (Below.trod laidOut (by kernel_rfl) (of_decide_eq_true (by kernel_rfl)) k0 bel lt0) (trodAll_cons_mk (Below.trod laidOut (by kernel_rfl) (of_decide_eq_true (by kernel_rfl)) k1 bel lt1) trodAll_mk0)), rfl, bel.frame _, fun h => by cases h⟩

theorem lawS0175AScript_over : Rows.lawS0175AScriptRow.holds Yba.pinned (OpenSpec.ofChange Rows.lawS0175AScriptSpec) :=
  OpenClaim.holds_of_wide 4 Yba.f4 rfl rfl rfl rfl rfl rfl rfl ⟨rfl, rfl, rfl, rfl, rfl⟩ rfl rfl rfl rfl rfl (by kernel_rfl) Yba.func4 (by kernel_rfl)
    (of_decide_eq_true (by kernel_rfl)) (by unfold Func.isWrapper; first | (rw [if_pos (by decide +kernel)]; kernel_rfl) | (rw [if_neg (by decide +kernel)]; exact ⟨rfl, rfl⟩))
    (fun os started H enc _ => script_lifted os started H enc)

theorem lawS0175AScript_proved : Rows.LawS0175AScriptSaid := lawS0175AScript_over
end Go.Proofs.Ybulkcpg
