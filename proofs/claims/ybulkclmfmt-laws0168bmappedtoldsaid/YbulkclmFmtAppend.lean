import Derived.Test.YbulkclmFmtFirst
namespace Go.Proofs.YbulkclmFmt
open Go.ChangeShapes Go.WideShapes Go.ChangeAt Go.RowKit
set_option linter.unusedVariables false

theorem Sl.src {w : World} {a : Option Addr} {n : Nat} {K : Nat → Int} (h : Sl w a n K) (c : Nat) : Src Ybaf.prog 1 23 (.slice a n c) n (cellsOf K n) w := by
  have one : ∀ u ∈ cellsOf K n, u.oneCell' = true := fun u hu => by unfold cellsOf at hu; obtain ⟨_, _, rfl⟩ := List.mem_map.1 hu; rfl
  rcases h with rfl | ⟨b, o, rfl, hc⟩
  · cases a with
    | none => exact Src.ofNil w Ybaf.underlying23 c
    | some x => exact Src.ofSlice w Ybaf.underlying23 x 0 c _ (by simp [cellsOf]) (fun j u hu => by simp [cellsOf] at hu) one
  · refine Src.ofSlice w Ybaf.underlying23 ⟨b, o, none⟩ n c _ (by rw [cellsOf_length, Nat.mul_one]) (fun j u hu => ?_) one
    have hj : j < n := by have := (List.getElem?_eq_some_iff.1 hu).1; rwa [cellsOf_length] at this
    rw [cellsOf_get? hj] at hu
    cases hu
    rw [Go.WideShapes.add_plain]
    have := hc j hj
    rwa [Nat.zero_add] at this

/-- 'append(d, x...)', and what becomes of the row that d lies in. -/
theorem Row.append2 {w : World} {g cap n : Nat} {B : Nat → Int} (h : Row w g cap cap B) (hn : n ≤ cap) {tx ty : TypeId} {x : Value} {m : Nat} {C : Nat → Int} (hs : Src Ybaf.prog 1 tx x m (cellsOf C m) w) (hb : n + m ≤ 140737488355328) :
    ∃ g' cap' w', (Builtin.append_ #[23, tx] ty #[.slice (some ⟨g, 0, none⟩) n cap, x]).run Ybaf.prog w = .ok (.slice (some ⟨g', 0, none⟩) (n + m) cap') w' ∧ Row w' g' cap' (n + m) (catB B n C) ∧ Hole g w.heap.size w w' ∧
      Row w' g cap cap (fun j => if n + m ≤ cap ∧ n ≤ j ∧ j < n + m then C (j - n) else B j) := by
  by_cases hroom : n + m ≤ cap
  · obtain ⟨i, hi, hz0, hz1, hz2⟩ := info_parts info5
    have hr := run_append_room_src (P := Ybaf.prog) w 23 tx ty 5 i Ybaf.underlying23 hi g 0 n cap x m (cellsOf C m) (by rw [hz1]; exact hs) hroom
      (fun j hj => by rw [cellsOf_length] at hj; rw [hz1]; exact h.room.there _ (by omega)) (fun j hj => h.room.free _)
    rw [hz1, Nat.mul_one, Nat.zero_add] at hr
    have h2 := h.setCells n m C hn hroom
    rw [show max cap (n + m) = cap by omega] at h2
    refine ⟨g, cap, _, hr, ⟨h2.room, hroom, fun j hj => ?_⟩, Hole.setCells _ _ _ _ _, h2.congr (fun j hj => by simp [hroom])⟩
    rw [h2.at_ j (by omega)]
    unfold catB
    by_cases e : j < n
    · rw [if_neg (by omega), if_pos e]
    · rw [if_pos (by omega), if_neg e]
  · have hrow : Row w g cap n B := ⟨h.room, hn, fun j hj => h.at_ j (by omega)⟩
    obtain ⟨i, hi, hz0, hz1, hz2⟩ := info_parts info5
    have hold : (Builtin.firstCells i.size n (.slice (some ⟨g, 0, none⟩) n cap)).run Ybaf.prog w.drew = .ok (cellsOf B n).toArray w.drew := by
      rw [hz1]
      exact (show Row w.drew g cap n B from ⟨⟨hrow.room.lt, hrow.room.there, hrow.room.free⟩, hrow.le, hrow.at_⟩).first
    have hr := run_append_grow_src (P := Ybaf.prog) w 23 tx ty 5 i _ Ybaf.underlying23 hi hz0 (some ⟨g, 0, none⟩) n cap (cellsOf B n) hold x m (cellsOf C m) (by rw [hz1]; exact hs) (by omega) (by omega)
      (growslice_fits (by omega) (by rw [hz2]; omega))
    obtain ⟨g', cap', w', hrun, hR, hH, hg'⟩ := hrow.append (ty := ty) hs hb
    have hbel : Below w.heap.size w w' := by
      have hrun' := hrun
      rw [hr] at hrun'
      injection hrun' with e1 e2
      rw [← e2]; exact (Below.refl _ _).drew.alloc (by simp) _
    refine ⟨g', cap', w', hrun, hR, hH, ?_⟩
    exact (h.later hbel).congr (fun j hj => by rw [if_neg (by omega)])

set_option maxRecDepth 100000 in
set_option maxHeartbeats 2000000 in
theorem appendValue_any (D R g N cap n : Nat) (B : Nat → Int) (Ks Vs : Nat → ByteArray) (H : Nat → Nat) (S : Nat → Nat → Option Nat) (it : Nat) (E : Value) (ka : Option Addr) (kc : Nat) (key : ByteArray) (w : World) (fok : FileOK B N n Ks Vs H S)
    (hC : Ctx w D R g N cap B (fun t => if cntT H n t = 0 then 0 else tposT (posT Ks Vs n) (cntT H n) t) (fun t => 2 * cntT H n t) (.slice none 0 0) (.iface it E) ka key) (hk : key.size ≤ 1048576) (hkc : key.size ≤ kc)
    (bk ld : Nat) (BK : Nat → Int) (hbk : Row w bk (ld + 64) (ld + 64) BK) (hld : ld ≤ 4096) (hVs : ∀ i, i < n → (Vs i).size ≤ 1048576) :
    Calls Ybaf.prog 15 #[.pointer (some ⟨D, 0, none⟩), .slice (some ⟨bk, 0, none⟩) ld (ld + 64), .slice ka key.size kc] w fun e w' =>
      (∃ i, Found n Ks key i ∧ ∃ g' cap', e = .returned (.tuple #[.slice (some ⟨g', 0, none⟩) (ld + (Vs i).size) cap', .nilIface]) ∧ Row w' g' cap' (ld + (Vs i).size) (catB BK ld (strB (Vs i))) ∧ Hole bk w.heap.size w w' ∧
        Row w' bk (ld + 64) (ld + 64) (fun j => if ld + (Vs i).size ≤ ld + 64 ∧ ld ≤ j ∧ j < ld + (Vs i).size then strB (Vs i) (j - ld) else BK j)) ∨
      (Missing n Ks key ∧ e = .returned (.tuple #[.slice (some ⟨bk, 0, none⟩) ld (ld + 64), .iface it E]) ∧ Below w.heap.size w w') := by
  have hcall := first_any D R g N cap n B Ks Vs H S it E ka kc key w fok hC hk hkc
  have h21 := run21
  have HB := hide (And.intro hbk hVs)
  clear hC fok hbk hVs
  go_enter Ybaf.func15, Ybaf.ntmps15
  go_wp2_with fail
  refine hcall.mono ?_
  clear hcall
  rintro e w1 ⟨hb1, (⟨i, hF, a, m, cp, rfl, hm1, hm2, hsl⟩ | ⟨hM, a, m, cp, rfl⟩)⟩
  · have hVi := HB.out.2 i hF.1
    obtain ⟨g', cap', w2, hrun, hR, hh, hR2⟩ := (HB.out.1.later hb1).append2 (n := ld) (by omega) (ty := 23) (hsl.src cp) (by omega)
    have HX := hide (And.intro hb1 (And.intro hF (And.intro hR (And.intro hh hR2))))
    clear hb1 hF hR hh hR2 hsl HB
    generalize hve : (Vs i).size = vs at *
    have HE := hide hve
    clear hve
    go_wp2_with (at_builtin; refine Lib.wpList_append_run _ rfl _ _ _ _ rfl _ _ rfl rfl _ _ hrun ?_)
    go_ret2
    have hve := HE.out
    subst hve
    obtain ⟨hb1, hF, hR, hh, hR2⟩ := HX.out
    exact .inl ⟨i, hF, g', cap', rfl, hR, (Hole.of_below hb1).trans (hh.mono hb1.size), hR2⟩
  · have HX := hide (And.intro hb1 hM)
    clear hb1 hM HB
    go_wp2_with fail
    go_ret2
    exact .inr ⟨HX.out.2, rfl, HX.out.1⟩
end Go.Proofs.YbulkclmFmt
