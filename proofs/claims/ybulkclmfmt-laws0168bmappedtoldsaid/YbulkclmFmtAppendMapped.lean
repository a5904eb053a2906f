import Derived.Test.YbulkclmFmtFirstMapped
import Derived.Test.YbulkclmFmtAppend
namespace Go.Proofs.YbulkclmFmt
open Go.ChangeShapes Go.WideShapes Go.ChangeAt Go.RowKit
set_option linter.unusedVariables false

set_option maxRecDepth 100000 in
set_option maxHeartbeats 2000000 in
theorem appendValue_mapped (D R g N cap n : Nat) (B : Nat → Int) (Ks Vs : Nat → ByteArray) (H : Nat → Nat) (S : Nat → Nat → Option Nat) (it : Nat) (E : Value) (ka : Option Addr) (kc : Nat) (key : ByteArray) (w : World) (fok : FileOK B N n Ks Vs H S)
    (hC : Ctx w D R g N cap B (fun t => if cntT H n t = 0 then 0 else tposT (posT Ks Vs n) (cntT H n) t) (fun t => 2 * cntT H n t) (.slice (some ⟨g, 0, none⟩) N cap) (.iface it E) ka key) (hT : Tab4 w) (hk : key.size ≤ 1048576) (hkc : key.size ≤ kc)
    (bk ld : Nat) (BK : Nat → Int) (hbk : Row w bk (ld + 64) (ld + 64) BK) (hld : ld ≤ 4096) (hVs : ∀ i, i < n → (Vs i).size ≤ 1048576) :
    Calls Ybaf.prog 15 #[.pointer (some ⟨D, 0, none⟩), .slice (some ⟨bk, 0, none⟩) ld (ld + 64), .slice ka key.size kc] w fun e w' =>
      (∃ i, Found n Ks key i ∧ ∃ g' cap', e = .returned (.tuple #[.slice (some ⟨g', 0, none⟩) (ld + (Vs i).size) cap', .nilIface]) ∧ Row w' g' cap' (ld + (Vs i).size) (catB BK ld (strB (Vs i))) ∧ Hole bk w.heap.size w w' ∧
        Row w' bk (ld + 64) (ld + 64) (fun j => if ld + (Vs i).size ≤ ld + 64 ∧ ld ≤ j ∧ j < ld + (Vs i).size then strB (Vs i) (j - ld) else BK j)) ∨
      (Missing n Ks key ∧ e = .returned (.tuple #[.slice (some ⟨bk, 0, none⟩) ld (ld + 64), .iface it E]) ∧ Below w.heap.size w w') := by
  have hcall := first_mapped D R g N cap n B Ks Vs H S it E ka kc key w fok hC hT hk hkc
  have h21 := run21
  have HB := hide (And.intro hbk hVs)
  clear hC fok hbk hVs hT
  go_enter Ybaf.func15, Ybaf.ntmps15
  go_wp2_with fail
  refine hcall.mono ?_
  clear hcall
  rintro e w1 ⟨hb1, (⟨i, hF, a, m, cp, rfl, hm1, hm2, hsl⟩ | ⟨hM, a, m, cp, rfl⟩)⟩
  · have hVi := HB.out.2 i hF.1
    obtain ⟨g', cap', w2, hrun, hR, hh, hR2⟩ := (HB.out.1.later hb1).append2 (n := ld) (by omega) (ty := 23) (hsl.src cp) (by omega)
    have HX := hide (And.intro hb1 (And.intro hF (And.intro hR (And.intro hh hR2))))
    clear hb1 hF hR hh hR2 hsl HB
    generalize hve : (Vs i).size = vs at *
    have HE := hide hve
    clear hve
    go_wp2_with (at_builtin; refine Lib.wpList_append_run _ rfl _ _ _ _ rfl _ _ rfl rfl _ _ hrun ?_)
    go_ret2
    have hve := HE.out
    subst hve
    obtain ⟨hb1, hF, hR, hh, hR2⟩ := HX.out
    exact .inl ⟨i, hF, g', cap', rfl, hR, (Hole.of_below hb1).trans (hh.mono hb1.size), hR2⟩
  · have HX := hide (And.intro hb1 hM)
    clear hb1 hM HB
    go_wp2_with fail
    go_ret2
    exact .inr ⟨HX.out.2, rfl, HX.out.1⟩
end Go.Proofs.YbulkclmFmt
