import Derived.Test.YbulkclmFmtFirstMap
namespace Go.Proofs.YbulkclmFmt
open Go.ChangeShapes Go.WideShapes Go.ChangeAt Go.RowKit
set_option linter.unusedVariables false

set_option maxRecDepth 100000 in
set_option maxHeartbeats 2000000 in
theorem first_mapped (D R g N cap n : Nat) (B : Nat → Int) (Ks Vs : Nat → ByteArray) (H : Nat → Nat) (S : Nat → Nat → Option Nat) (it : Nat) (E : Value) (ka : Option Addr) (kc : Nat) (key : ByteArray) (w : World) (fok : FileOK B N n Ks Vs H S)
    (hC : Ctx w D R g N cap B (fun t => if cntT H n t = 0 then 0 else tposT (posT Ks Vs n) (cntT H n) t) (fun t => 2 * cntT H n t) (.slice (some ⟨g, 0, none⟩) N cap) (.iface it E) ka key) (hT : Tab4 w) (hk : key.size ≤ 1048576) (hkc : key.size ≤ kc) :
    Calls Ybaf.prog 20 #[.pointer (some ⟨D, 0, none⟩), .slice ka key.size kc] w fun e w' => Below w.heap.size w w' ∧
      ((∃ i, Found n Ks key i ∧ ∃ a m cp, e = .returned (.tuple #[.slice a m cp, .int .i64 (Vs i).size, .nilIface]) ∧ (Vs i).size ≤ m ∧ m ≤ cp ∧ Sl w' a (Vs i).size (strB (Vs i))) ∨
       (Missing n Ks key ∧ ∃ a m cp, e = .returned (.tuple #[.slice a m cp, .int .i64 0, .iface it E]))) := by
  have hcall1 := mapped_any D R g N cap _ _ (some ⟨g, 0, none⟩) N cap w hC.db
  have hcall2 := hash_any ka key.size kc (strB key) w (strB_byt key) (by omega) hC.g3 hC.ks
  rw [hashN_eq] at hcall2
  have hlt := hashN_lt key
  obtain ⟨t, ht⟩ : ∃ t, t = hashN key % 256 := ⟨_, rfl⟩
  have htI : ((hashN key : Int) % 256) = (t : Int) := by omega
  have ht256 : t < 256 := by omega
  obtain ⟨tc0, tc1⟩ := hC.db.tb t ht256
  have lD : D < w.heap.size := World.block_lt_of_cell? w _ hC.db.c1
  have hcn := cntT_le H n t
  have hfew := fok.few
  have hsm := fok.small
  have hm := tposT_mono (posT Ks Vs n) (cntT H n) ht256
  have hgg := tposT_ge (posT Ks Vs n) (cntT H n) t
  have hpg := posT_ge Ks Vs n
  have hsz := fok.size
  have hlook := fok.tabs.look (Ks := Ks) key (hashN key) (fun i hi e => by rw [hashOf_eq fok hi, e])
  rw [← ht] at hlook
  by_cases hc : cntT H n t = 0
  · have hmiss : Missing n Ks key := by
      rcases hlook with ⟨i, _, _, _, d, hd, _⟩ | ⟨hno, _⟩
      · omega
      · exact hno
    have g1 := hC.g1
    have lg1 : 1 < w.heap.size := World.block_lt_of_cell? w _ g1
    simp only [hc, if_true, Nat.mul_zero] at tc0 tc1
    have HM := hide hmiss
    clear ht
    clear hC hlook hmiss fok hc hm hgg hpg hsz hsm
    generalize hashN key = hk' at *
    go_enter Ybaf.func20, Ybaf.ntmps20
    go_wp2_with fail
    refine hcall1.mono ?_
    rintro e w1 ⟨rfl, rfl⟩
    clear hcall1
    go_wp2_with fail
    refine hcall2.mono ?_
    rintro e w2 ⟨rfl, rfl⟩
    clear hcall2
    go_wp2_with fail
    go_quiet (fail)
    go_wp2_with fail
    refine bodyPost_ret (v := .tuple #[.slice none 0 0, .int .i64 0, .iface it E]) ?_ rfl ⟨below_drewN _ ((Below.refl _ _).alloc (Nat.le_refl _) _), .inr ⟨HM.out, none, 0, 0, rfl⟩⟩
    simp [results, Ybaf.f20, go_sem]
  · simp only [hc, if_false] at tc0 tc1
    obtain ⟨L, hL⟩ : ∃ L, L = 2 * cntT H n t := ⟨_, rfl⟩
    obtain ⟨tpo, htpo⟩ : ∃ tpo, tpo = tposT (posT Ks Vs n) (cntT H n) t := ⟨_, rfl⟩
    have hend : tpo + L * 8 ≤ N := by omega
    have hL0 : L ≠ 0 := by omega
    have hLb : L ≤ 1024 := by omega
    have htpb : tpo ≤ 16777216 := by omega
    have htp0 : 0 < tpo := by omega
    have hLI : (((L : Nat) : Int) == 0) = false := by simp; omega
    -- the look-up, in the words of 'next_any'
    have hnext : ∃ (dstop : Nat) (found : Bool) (V : ByteArray), dstop < L ∧ (∀ d, d < dstop → ∃ p hh K V, SlotOK B N (tpo + (hashN key / 256 % L + d) % L * 8) p hh K V ∧ K ≠ key) ∧
        (if found then ∃ p, SlotOK B N (tpo + (hashN key / 256 % L + dstop) % L * 8) p (hashN key) key V else le32 B (tpo + (hashN key / 256 % L + dstop) % L * 8 + 4) = 0) ∧
        (if found then ∃ i, Found n Ks key i ∧ Vs i = V else Missing n Ks key) := by
      have hmod : ∀ x, x % L < 2 * cntT H n t := fun x => by rw [← hL]; exact Nat.mod_lt _ (by omega)
      rw [← hL] at hlook
      rcases hlook with ⟨i, hi, hke, hmin, d, hd, hsd, hb⟩ | ⟨hno, hz | ⟨d, hd, hsd, hb⟩⟩
      · refine ⟨d, true, Vs i, hd, fun d' hd' => ?_, ?_, i, ⟨hi, hke, hmin⟩, rfl⟩
        · obtain ⟨j, hj, hne⟩ := hb d' hd'
          exact ⟨_, _, _, _, by rw [htpo]; exact fok.slot ht256 (hmod _) hj, hne⟩
        · have := fok.slot ht256 (hmod _) hsd
          rw [hke, hashOf_eq fok hi, hke, ← htpo] at this
          exact ⟨_, this⟩
      · omega
      · refine ⟨d, false, ByteArray.empty, hd, fun d' hd' => ?_, ?_, hno⟩
        · obtain ⟨j, hj, hne⟩ := hb d' hd'
          exact ⟨_, _, _, _, by rw [htpo]; exact fok.slot ht256 (hmod _) hj, hne⟩
        · have := fok.tabs.none_ t ht256 _ (hmod _) hsd
          rw [htpo, Nat.mul_comm _ 8]
          exact this
    obtain ⟨dstop, found, V, hds, hbefore, hstop, hres⟩ := hnext
    have hVs : V.size ≤ 16777216 ∨ found = false := by
      cases found with
      | false => exact .inr rfl
      | true =>
        obtain ⟨p, hp⟩ : ∃ p, SlotOK B N (tpo + (hashN key / 256 % L + dstop) % L * 8) p (hashN key) key V := by simpa using hstop
        have := hp.more
        exact .inl (by omega)
    cases found with
    | true =>
      have hVb : V.size ≤ 16777216 := by
        rcases hVs with h | h
        · exact h
        · cases h
      refine (first_go D R g N cap B _ _ it E ka kc key w hC hT hk hkc fok.byt t L tpo (hashN key / 256 % L) dstop ht (by rw [hL]) (by rw [htpo, if_neg hc]) rfl hL0 (by omega) (by omega) hend (by omega) hds hbefore V true hVb hstop).mono ?_
      rintro e w3 ⟨hb3, hres3⟩
      obtain ⟨a, m, cp, rfl, h1, h2, h3⟩ : ∃ a m cp, e = .returned (.tuple #[.slice a m cp, .int .i64 V.size, .nilIface]) ∧ V.size ≤ m ∧ m ≤ cp ∧ Sl w3 a V.size (strB V) := by simpa using hres3
      obtain ⟨i, hi, hVi⟩ : ∃ i, Found n Ks key i ∧ Vs i = V := by simpa using hres
      exact ⟨hb3, .inl ⟨i, hi, a, m, cp, by rw [hVi], by rw [hVi]; exact h1, h2, by rw [hVi]; exact h3⟩⟩
    | false =>
      have hst0 : le32 B (tpo + (hashN key / 256 % L + dstop) % L * 8 + 4) = 0 := by simpa using hstop
      refine (first_go D R g N cap B _ _ it E ka kc key w hC hT hk hkc fok.byt t L tpo (hashN key / 256 % L) dstop ht (by rw [hL]) (by rw [htpo, if_neg hc]) rfl hL0 (by omega) (by omega) hend (by omega) hds hbefore ByteArray.empty false (by simp) (by simpa using hst0)).mono ?_
      rintro e w3 ⟨hb3, hres3⟩
      obtain ⟨a, m, cp, rfl⟩ : ∃ a m cp, e = .returned (.tuple #[.slice a m cp, .int .i64 0, .iface it E]) := by simpa using hres3
      have hmiss : Missing n Ks key := by simpa using hres
      exact ⟨hb3, .inr ⟨hmiss, a, m, cp, rfl⟩⟩
end Go.Proofs.YbulkclmFmt
