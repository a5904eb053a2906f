import Derived.Test.YbulkclmFmtNextMap
import Derived.Test.YbulkclmFmtFast
import Derived.Test.YbulkclmFmtFirst
import Derived.Laws.Cover3
namespace Go.Proofs.YbulkclmFmt
open Go.ChangeShapes Go.WideShapes Go.ChangeAt Go.RowKit
set_option linter.unusedVariables false

theorem Tab4.later {w w' : World} (h : Tab4 w) (hb : Below w.heap.size w w') : Tab4 w' := by
  obtain ⟨a, b, c, d⟩ := h
  have hl := World.block_lt_of_cell? w _ a
  exact ⟨(hb.cell (p := ⟨4, 0, none⟩) hl).trans a, (hb.cell (p := ⟨4, 1, none⟩) hl).trans b, (hb.cell (p := ⟨4, 3, none⟩) hl).trans c, (hb.cell (p := ⟨4, 7, none⟩) hl).trans d⟩

theorem or_stops (b0 b1 b2 b3 : Nat) (h0 : b0 = 0 ∨ b0 = 1) (h1 : b1 = 0 ∨ b1 = 1) (h2 : b2 = 0 ∨ b2 = 1) (h3 : b3 = 0 ∨ b3 = 1) :
    bits .or .u32 (bits .or .u32 (bits .or .u32 (b0 : Int) (IntKind.u32.wrap ((b1 : Int) * 2))) (IntKind.u32.wrap ((b2 : Int) * 4))) (IntKind.u32.wrap ((b3 : Int) * 8)) = ((b0 + 2 * b1 + 4 * b2 + 8 * b3 : Nat) : Int) := by
  rcases h0 with rfl | rfl <;> rcases h1 with rfl | rfl <;> rcases h2 with rfl | rfl <;> rcases h3 with rfl | rfl <;> decide

set_option maxRecDepth 100000 in
set_option maxHeartbeats 8000000 in
theorem first_go (D R g N cap : Nat) (B : Nat → Int) (tp tl : Nat → Nat) (it : Nat) (E : Value) (ka : Option Addr) (kc : Nat) (key : ByteArray) (w : World) (hC : Ctx w D R g N cap B tp tl (.slice (some ⟨g, 0, none⟩) N cap) (.iface it E) ka key) (hT : Tab4 w)
    (hk : key.size ≤ 1048576) (hkc : key.size ≤ kc) (hB : Byt B)
    (t L tpo home dstop : Nat) (ht : t = hashN key % 256) (hLe : L = tl t) (htpe : tpo = tp t) (hhome : home = hashN key / 256 % L) (htl : L ≠ 0) (hL : L ≤ 1024) (htp : tpo ≤ 16777216) (hend : tpo + L * 8 ≤ N) (hN : N ≤ 16777216) (hds : dstop < L)
    (hbefore : ∀ d, d < dstop → ∃ p hh K V, SlotOK B N (tpo + (home + d) % L * 8) p hh K V ∧ K ≠ key)
    (V : ByteArray) (found : Bool) (hVb : V.size ≤ 16777216) (hstop : if found then ∃ p, SlotOK B N (tpo + (home + dstop) % L * 8) p (hashN key) key V else le32 B (tpo + (home + dstop) % L * 8 + 4) = 0) :
    Calls Ybaf.prog 20 #[.pointer (some ⟨D, 0, none⟩), .slice ka key.size kc] w fun e w' => Below w.heap.size w w' ∧
      (if found then ∃ a m cp, e = .returned (.tuple #[.slice a m cp, .int .i64 V.size, .nilIface]) ∧ V.size ≤ m ∧ m ≤ cp ∧ Sl w' a V.size (strB V) else ∃ a m cp, e = .returned (.tuple #[.slice a m cp, .int .i64 0, .iface it E])) := by
  have hcapN : N ≤ cap := hC.file.le
  have hcall1 := mapped_any D R g N cap _ _ (some ⟨g, 0, none⟩) N cap w hC.db
  have hcall2 := hash_any ka key.size kc (strB key) w (strB_byt key) (by omega) hC.g3 hC.ks
  rw [hashN_eq] at hcall2
  have hlt := hashN_lt key
  have htI : ((hashN key : Int) % 256) = (t : Int) := by omega
  have ht256 : t < 256 := by omega
  obtain ⟨tc0, tc1⟩ := hC.db.tb t ht256
  simp only [← hLe, ← htpe] at tc0 tc1
  have lD : D < w.heap.size := World.block_lt_of_cell? w _ hC.db.c1
  have hLI : ((L : Int) == 0) = false := by simp; omega
  have hhl : home < L := by rw [hhome]; exact Nat.mod_lt _ (by omega)
  have hhI : ((hashN key : Int) / 256 % (L : Int)) = (home : Int) := by rw [hhome]; simp
  have hnext : ∀ (w2 : World), Below w.heap.size w w2 → Calls Ybaf.prog 30 #[.pointer (some ⟨D, 0, none⟩), .pointer (some ⟨w2.heap.size, 0, none⟩), .slice ka key.size kc] (w2.alloc (.cells #[.bool false, .int .u32 0, .int .u32 0, .int .u32 0, .int .u32 0, .int .u32 0] 84)) fun e w' => Below w.heap.size w w' ∧
      (if found then ∃ a cp, e = .returned (.tuple #[.slice a V.size cp, .nilIface]) ∧ V.size ≤ cp ∧ Sl w' a V.size (strB V) else e = .returned (.tuple #[.slice none 0 0, .iface it E])) := fun w2 hbw =>
    next_map D R g N cap w2.heap.size B tp tl it E ka kc key w _ hC (hbw.trans ((Below.refl _ _).alloc hbw.size _)) hbw.size (heap_alloc_new w2 _) hk hkc hB t L tpo home dstop ht hLe htpe hhome htl hL htp hend hN hds hbefore V found hstop
  have HN := hide hnext
  have HC := hide (And.intro hC hT)
  have HST := hide (And.intro hbefore hstop)
  have HT := hide (And.intro ht (And.intro hLe (And.intro htpe hhome)))
  clear hnext hC hT hbefore hstop ht hLe htpe hhome
  obtain ⟨hk', HK⟩ : ∃ hk', Hid (hk' = hashN key) := ⟨_, rfl⟩
  rw [← HK.out] at hcall2 hlt htI hhI
  have e1 : (tpo : Int) + (L : Int) * 8 ≤ (N : Int) := by omega
  by_cases h4 : home + 4 ≤ L
  · as_aux_lemma =>
      have h4I : (4 : Int) ≤ (L : Int) - (home : Int) := by omega
      obtain ⟨at_, HAT⟩ : ∃ at_, Hid (at_ = tpo + home * 8) := ⟨_, rfl⟩
      have hatI : ((tpo : Int) + (home : Int) * 8) = (at_ : Int) := by have := HAT.out; omega
      have hat32 : at_ + 32 ≤ N := by have := HAT.out; omega
      have hcne : ¬ cap = at_ := by omega
      have hatle : (at_ : Int) ≤ (N : Int) := by omega
      have harr : ∀ w, (Instr.arrayAt 91 (.slice (some ⟨g, at_, none⟩) (N - at_) (cap - at_))).run Ybaf.prog w = .ok (.pointer (some ⟨g, at_, none⟩)) w := fun w => run_arrayAt w 91 _ 32 _ _ _ Ybaf.underlying91 (by omega)
      obtain ⟨X, hX⟩ : ∃ X : Nat → Int, ∀ j, X j = le32 B (at_ + j * 8) := ⟨_, fun _ => rfl⟩
      obtain ⟨Y, hY⟩ : ∃ Y : Nat → Int, ∀ j, Y j = le32 B (at_ + j * 8 + 4) := ⟨_, fun _ => rfl⟩
      have hfast := fast_plain h4 HST.out.1 HST.out.2 X Y (fun j => by rw [hX, HAT.out]) (fun j => by rw [hY, HAT.out])
      rw [← HK.out] at hfast
      have HFA := hide hfast
      clear hfast
      have hx0 : 0 ≤ X 0 ∧ X 0 < 4294967296 := by rw [hX]; exact le32_range hB _
      have hy0 : 0 ≤ Y 0 ∧ Y 0 < 4294967296 := by rw [hY]; exact le32_range hB _
      have hu : ∀ (w1 : World) (j n : Nat), j < 4 → 8 ≤ n → Below w.heap.size w w1 → Calls Ybaf.prog 24 #[.agg #[], .slice (some ⟨g, at_ + j * 8, none⟩) n n] w1 fun e w' => e = .returned (.int .u64 (X j + Y j * 4294967296)) ∧ Hid (Below w.heap.size w w') := fun w1 j n hj hn hb => by
        refine (uint64_any g (at_ + j * 8) n n B (at_ + j * 8) w1 hn hB (fun i hi => (HC.out.1.file.later hb).at_ _ (by omega))).mono ?_
        rintro e w2 ⟨rfl, hb1⟩
        exact ⟨by rw [hX, hY], hb.trans (hb1.mono hb.size)⟩
      have hst : ∀ w1 : World, Below w.heap.size w w1 → Hid _ := fun w1 hb => hide (stops_chain g cap N at_ B hk' w1 (HC.out.1.file.later hb) hB hat32 (by omega) X Y hX hY)
      have HU := hide hu
      have HSC := hide hst
      have HXY := hide (And.intro hX hY)
      clear hu hst hX hY
      go_enter Ybaf.func20, Ybaf.ntmps20
      go_wp2_with fail
      refine hcall1.mono ?_
      rintro e w1 ⟨rfl, rfl⟩
      clear hcall1
      go_wp2_with fail
      refine hcall2.mono ?_
      rintro e w2 ⟨rfl, rfl⟩
      clear hcall2
      go_wp2_with fail
      obtain ⟨W, hW⟩ : ∃ W, W = w2.alloc (.cells #[.int .u32 tpo, .int .u32 L] 41) := ⟨_, rfl⟩
      rw [← hW]
      have hbW : Below w2.heap.size w2 W := by rw [hW]; exact (Below.refl _ _).alloc (Nat.le_refl _) _
      have hcu := HU.out W.drew 0 32 (by omega) (by omega) hbW.drew
      rw [Nat.zero_mul, Nat.add_zero] at hcu
      have HBW := hide hbW
      clear hW hbW tc0 tc1 lD harr
      go_region_held3 (fun _ => True) (trivial) (first | (go_at_call 24; refine hcu.mono ?_; rintro e w3 ⟨rfl, HB3⟩))
      clear hcu
      by_cases hX0 : X 0 = hk'
      · by_cases hY0 : Y 0 = 0
        · as_aux_lemma =>
            have hX0I : (X 0 != (hk' : Int)) = false := by simp; exact hX0
            have hY0I : (Y 0 == 0) = true := by simp; exact hY0
            have HY0 := hide hY0
            clear hX0 hY0
            have hq0 := (HSC.out w3.drew HB3.out.drew).out
            have hdiv : (X 0 + Y 0 * 4294967296) / 4294967296 = Y 0 := by omega
            have hmod : (X 0 + Y 0 * 4294967296) % 4294967296 = X 0 := by omega
            go_wp2_with fail
            go_region_held3 (fun _ => True) (trivial) (first
                | (go_at_call 25; first
                    | (refine hq0.mono ?_; clear hq0; rintro e wa ⟨rfl, hq1⟩)
                    | (refine hq2.mono ?_; clear hq2; rintro e wc ⟨rfl, hq3⟩)
                    | (refine hq4.mono ?_; clear hq4; rintro e we ⟨rfl, hq5⟩)
                    | (refine hq6.mono ?_; clear hq6; rintro e wg ⟨rfl, HBG⟩))
                | (go_at_call 24; first
                    | (refine hq1.mono ?_; clear hq1; rintro e wb ⟨rfl, hq2⟩)
                    | (refine hq3.mono ?_; clear hq3; rintro e wd ⟨rfl, hq4⟩)
                    | (refine hq5.mono ?_; clear hq5; rintro e wf ⟨rfl, hq6⟩)))
            rw [or_stops _ _ _ _ (stopB_01 X Y hk' 0) (stopB_01 X Y hk' 1) (stopB_01 X Y hk' 2) (stopB_01 X Y hk' 3)]
            obtain ⟨s, hs⟩ : ∃ s, s = stopB X Y hk' 0 + 2 * stopB X Y hk' 1 + 4 * stopB X Y hk' 2 + 8 * stopB X Y hk' 3 := ⟨_, rfl⟩
            rw [← hs]
            have hs16 : s < 16 := by
              have k0 := stopB_01 X Y hk' 0
              have k1 := stopB_01 X Y hk' 1
              have k2 := stopB_01 X Y hk' 2
              have k3 := stopB_01 X Y hk' 3
              omega
            have hbg : Below w2.heap.size w2 wg := HB3.out.drew.trans (HBG.out.mono HB3.out.size)
            have hfa := HFA.out.2 s hs
            have hctz := tz_any s wg hs16 (HC.out.2.later hbg)
            have HBg := hide hbg
            clear hs hbg HBG hdiv hmod HSC HFA
            rcases hfa with ⟨i, hi4, hti, hYi, hf⟩ | ⟨i, hi4, hti, p, hYi, hHit⟩ | ⟨hti, p, hp0, hYi⟩
            · as_aux_lemma =>
                subst hf
                rw [hti] at hctz
                have hxi : 0 ≤ X i ∧ X i < 4294967296 := by rw [HXY.out.1]; exact le32_range hB _
                have hcu := HU.out wg.drew i (32 - i * 8) hi4 (by omega) HBg.out.drew
                rw [hYi] at hcu
                generalize X i = xi at *
                have hi1 : (i : Int).tmod 4 = (i : Int) := by rw [Int.tmod_eq_emod_of_nonneg (by omega)]; omega
                have hi2 : IntKind.i64.wrap ((i : Int) * 8) = (i : Int) * 8 := by rw [IntKind.wrap_i64]; omega
                have hi3 : (0 : Int) ≤ (i : Int) * 8 := by omega
                have hi5 : (i : Int) * 8 ≤ 32 := by omega
                have hi6 : ((i : Int) * 8).toNat = i * 8 := by omega
                have hi7 : ¬ 32 = i * 8 := by omega
                have hi8 : (i : Int) < 4 := by omega
                have hdv : (xi + 0 * 4294967296) / 4294967296 = 0 := by omega
                have hg1 := fun (w5 : World) (hb : Below w2.heap.size w2 w5) => (HC.out.1.later hb).g1
                have HG1 := hide hg1
                clear hYi hg1
                go_wp2_with fail
                refine hctz.mono ?_
                rintro e wz ⟨rfl, rfl⟩
                clear hctz
                go_wp2_with fail
                go_region_held3 (fun _ => True) (trivial) (first | (go_at_call 24; (try rw [hi6]); (try rw [if_neg hi7]); refine hcu.mono ?_; rintro e w5 ⟨rfl, HB5⟩))
                clear hcu
                have g1 := HG1.out _ HB5.out
                clear HG1 HC HU HN HST
                go_wp2_with fail
                go_quiet (fail)
                go_wp2_with fail
                refine bodyPost_ret (v := .tuple #[.slice none 0 0, .int .i64 0, .iface it E]) ?_ rfl ⟨below_drewN _ HB5.out, ⟨none, 0, 0, rfl⟩⟩
                simp [results, Ybaf.f20, go_sem]
            · as_aux_lemma =>
                rw [hti] at hctz
                have hxi : 0 ≤ X i ∧ X i < 4294967296 := by rw [HXY.out.1]; exact le32_range hB _
                have hcu := HU.out wg.drew i (32 - i * 8) hi4 (by omega) HBg.out.drew
                rw [hYi] at hcu
                generalize X i = xi at *
                have hi1 : (i : Int).tmod 4 = (i : Int) := by rw [Int.tmod_eq_emod_of_nonneg (by omega)]; omega
                have hi2 : IntKind.i64.wrap ((i : Int) * 8) = (i : Int) * 8 := by rw [IntKind.wrap_i64]; omega
                have hi3 : (0 : Int) ≤ (i : Int) * 8 := by omega
                have hi5 : (i : Int) * 8 ≤ 32 := by omega
                have hi6 : ((i : Int) * 8).toNat = i * 8 := by omega
                have hi7 : ¬ 32 = i * 8 := by omega
                have hi8 : (i : Int) < 4 := by omega
                have hpb : p < 4294967296 := by obtain ⟨K, V', hrec, hp0, hpm, _⟩ := hHit; omega
                have hpI0 : ((p : Int) == 0) = false := by obtain ⟨K, V', hrec, hp0, hpm, _⟩ := hHit; simp; omega
                have hdv : (xi + (p : Int) * 4294967296) / 4294967296 = (p : Int) := by omega
                have hwp : IntKind.u32.wrap (p : Int) = (p : Int) := by rw [IntKind.wrap_u32]; omega
                have HH := hide hHit
                clear hYi hHit
                go_wp2_with fail
                refine hctz.mono ?_
                rintro e wz ⟨rfl, rfl⟩
                clear hctz
                go_wp2_with fail
                go_region_held3 (fun _ => True) (trivial) (first | (go_at_call 24; (try rw [hi6]); (try rw [if_neg hi7]); refine hcu.mono ?_; rintro e w5 ⟨rfl, HB5⟩))
                clear hcu
                obtain ⟨K, V', hrec, hp0, hpm, hkk⟩ := HH.out
                have ctx := HC.out.1.later HB5.out
                have hcC := ctx.pm hB hN (p : Int) p rfl (by omega)
                rw [hrec.kl, hrec.vl] at hcC
                have hpI : ((p : Int) == 0) = false := by simp; omega
                by_cases hkl : K.size = key.size
                · rw [hkl] at hcC hpm
                  have hrs := rec_str hrec hB
                  rw [hkl] at hrs
                  obtain ⟨c8, HC8⟩ : ∃ c8, Hid (c8 = cap - (p + 8)) := ⟨_, rfl⟩
                  have hc8 : key.size + V'.size < c8 := by have := HC8.out; omega
                  have hmk : ¬ c8 = key.size := by omega
                  have hcF := fun w6 : World => view_map' g N cap ((p : Int) + 8) ((key.size : Int) + (V'.size : Int)) (p + 8) (key.size + V'.size) c8 w6 (by omega) (by omega) HC8.out (by omega) (by omega) hN hcapN
                  have hcG := fun (w6 : World) (hb6 : Below w2.heap.size w2 w6) => equal_any (some ⟨g, p + 8, none⟩) ka key.size c8 key.size kc (fun j => B (p + 8 + j)) (strB key) w6 (.inr ⟨_, _, rfl, fun j hj => by simp only [Nat.zero_add]; exact (HC.out.1.later hb6).file.at_ _ (by omega)⟩) (HC.out.1.later hb6).ks
                  rw [toStr_strB, hrs] at hcG
                  simp only [beq_str] at hcG
                  by_cases hKe : K = key
                  · as_aux_lemma =>
                      obtain ⟨hf, hVV⟩ : found = true ∧ V' = V := by
                        rcases hkk with h | ⟨_, a, b⟩
                        · exact absurd hKe h
                        · exact ⟨a, b⟩
                      subst hf
                      subst hKe
                      have HRC := hide (And.intro hrec hVV)
                      simp only [decide_true] at hcG
                      have HG := hide hcG
                      have HF := hide hcF
                      clear hcG hcF hkk hrec hVV hrs ctx HN
                      go_wp2_with fail
                      refine hcC.mono ?_
                      rintro e w6 ⟨rfl, hb6⟩
                      have hb6w := HB5.out.trans (hb6.mono HB5.out.size)
                      have hcF := HF.out w6
                      have hcG := HG.out w6 hb6w
                      have HB6 := hide hb6w
                      clear hcC hb6 hb6w HF HG
                      go_wp2_with fail
                      refine hcF.mono ?_
                      rintro e w7 ⟨rfl, rfl⟩
                      clear hcF
                      go_wp2_with fail
                      refine hcG.mono ?_
                      rintro e w9 ⟨rfl, rfl⟩
                      clear hcG
                      go_wp2_with fail
                      refine (pad_any (some ⟨g, p + 8 + K.size, none⟩) V'.size (c8 - K.size) .nilIface w9 (by omega) (by omega)).mono ?_
                      rintro e wp ⟨m, rfl, hm1, hm2, rfl⟩
                      go_wp2_with fail
                      obtain ⟨hrec, hVV⟩ := HRC.out
                      subst hVV
                      refine bodyPost_ret (v := .tuple #[.slice (some ⟨g, p + 8 + K.size, none⟩) m (c8 - K.size), .int .i64 V'.size, .nilIface]) ?_ rfl ⟨HB6.out, _, m, _, rfl, hm1, hm2, .inr ⟨_, _, rfl, fun j hj => ?_⟩⟩
                      · simp [results, Ybaf.f20, go_sem]
                      · have hle := hrec.le
                        rw [(HC.out.1.later HB6.out).file.at_ _ (by omega), Nat.zero_add, hrec.vb j hj]
                  · as_aux_lemma =>
                      simp only [decide_eq_false hKe] at hcG
                      have HG := hide hcG
                      have HF := hide hcF
                      clear hcG hcF hkk hrec hrs ctx hKe
                      go_wp2_with fail
                      refine hcC.mono ?_
                      rintro e w6 ⟨rfl, hb6⟩
                      have hb6w := HB5.out.trans (hb6.mono HB5.out.size)
                      have hcF := HF.out w6
                      have hcG := HG.out w6 hb6w
                      have HB6 := hide hb6w
                      clear hcC hb6 hb6w HF HG
                      go_wp2_with fail
                      refine hcF.mono ?_
                      rintro e w7 ⟨rfl, rfl⟩
                      clear hcF
                      go_wp2_with fail
                      refine hcG.mono ?_
                      rintro e w9 ⟨rfl, rfl⟩
                      clear hcG
                      go_wp2_with fail
                      have hn2 := HN.out w9 HB6.out
                      refine hn2.mono ?_
                      clear hn2
                      rintro e wn ⟨hbn, hres⟩
                      cases found with
                      | true =>
                        obtain ⟨a, cp, rfl, hcp, hsl⟩ : ∃ a cp, e = .returned (.tuple #[.slice a V.size cp, .nilIface]) ∧ V.size ≤ cp ∧ Sl wn a V.size (strB V) := by simpa using hres
                        have HR := hide (And.intro hbn hsl)
                        clear hres hbn hsl
                        go_wp2_with fail
                        refine (pad_any a V.size cp .nilIface wn hcp (by omega)).mono ?_
                        rintro e w4 ⟨m, rfl, hm1, hm2, rfl⟩
                        go_wp2_with fail
                        refine bodyPost_ret (v := .tuple #[.slice a m cp, .int .i64 V.size, .nilIface]) ?_ rfl ⟨HR.out.1, ⟨a, m, cp, rfl, hm1, hm2, HR.out.2⟩⟩
                        simp [results, Ybaf.f20, go_sem]
                      | false =>
                        obtain rfl : e = .returned (.tuple #[.slice none 0 0, .iface it E]) := by simpa using hres
                        have HR := hide hbn
                        clear hres hbn
                        go_wp2_with fail
                        refine (pad_any none 0 0 (.iface it E) wn (Nat.le_refl _) (by omega)).mono ?_
                        rintro e w4 ⟨m, rfl, hm1, hm2, rfl⟩
                        go_wp2_with fail
                        refine bodyPost_ret (v := .tuple #[.slice none m 0, .int .i64 0, .iface it E]) ?_ rfl ⟨HR.out, ⟨none, m, 0, rfl⟩⟩
                        simp [results, Ybaf.f20, go_sem]
                · as_aux_lemma =>
                    have hklI : ((K.size : Int) == (key.size : Int)) = false := by simp; omega
                    clear hkk hrec ctx
                    go_wp2_with fail
                    refine hcC.mono ?_
                    rintro e w6 ⟨rfl, hb6⟩
                    have HB6 := hide (HB5.out.trans (hb6.mono HB5.out.size))
                    clear hcC hb6
                    go_wp2_with fail
                    have hn2 := HN.out w6 HB6.out
                    refine hn2.mono ?_
                    clear hn2
                    rintro e wn ⟨hbn, hres⟩
                    cases found with
                    | true =>
                      obtain ⟨a, cp, rfl, hcp, hsl⟩ : ∃ a cp, e = .returned (.tuple #[.slice a V.size cp, .nilIface]) ∧ V.size ≤ cp ∧ Sl wn a V.size (strB V) := by simpa using hres
                      have HR := hide (And.intro hbn hsl)
                      clear hres hbn hsl
                      go_wp2_with fail
                      refine (pad_any a V.size cp .nilIface wn hcp (by omega)).mono ?_
                      rintro e w4 ⟨m, rfl, hm1, hm2, rfl⟩
                      go_wp2_with fail
                      refine bodyPost_ret (v := .tuple #[.slice a m cp, .int .i64 V.size, .nilIface]) ?_ rfl ⟨HR.out.1, ⟨a, m, cp, rfl, hm1, hm2, HR.out.2⟩⟩
                      simp [results, Ybaf.f20, go_sem]
                    | false =>
                      obtain rfl : e = .returned (.tuple #[.slice none 0 0, .iface it E]) := by simpa using hres
                      have HR := hide hbn
                      clear hres hbn
                      go_wp2_with fail
                      refine (pad_any none 0 0 (.iface it E) wn (Nat.le_refl _) (by omega)).mono ?_
                      rintro e w4 ⟨m, rfl, hm1, hm2, rfl⟩
                      go_wp2_with fail
                      refine bodyPost_ret (v := .tuple #[.slice none m 0, .int .i64 0, .iface it E]) ?_ rfl ⟨HR.out, ⟨none, m, 0, rfl⟩⟩
                      simp [results, Ybaf.f20, go_sem]
            · exfalso
              have := HY0.out
              omega
        · as_aux_lemma =>
            have hX0I : (X 0 != (hk' : Int)) = false := by simp; exact hX0
            obtain ⟨p, hYi, hHit⟩ := HFA.out.1 hY0
            have hpb : p < 4294967296 := by obtain ⟨K, V', hrec, hp0, hpm, _⟩ := hHit; omega
            have hpI0 : ((p : Int) == 0) = false := by obtain ⟨K, V', hrec, hp0, hpm, _⟩ := hHit; simp; omega
            have HH := hide hHit
            rw [hX0, hYi]
            have hdiv : ((hk' : Int) + (p : Int) * 4294967296) / 4294967296 = (p : Int) := by omega
            have hmod : ((hk' : Int) + (p : Int) * 4294967296) % 4294967296 = (hk' : Int) := by omega
            clear hYi hHit HSC HFA hY0 hX0 HU
            obtain ⟨K, V', hrec, hp0, hpm, hkk⟩ := HH.out
            have ctx := HC.out.1.later HB3.out
            have hcC := ctx.pm hB hN (p : Int) p rfl (by omega)
            rw [hrec.kl, hrec.vl] at hcC
            have hpI : ((p : Int) == 0) = false := by simp; omega
            by_cases hkl : K.size = key.size
            · rw [hkl] at hcC hpm
              have hrs := rec_str hrec hB
              rw [hkl] at hrs
              obtain ⟨c8, HC8⟩ : ∃ c8, Hid (c8 = cap - (p + 8)) := ⟨_, rfl⟩
              have hc8 : key.size + V'.size < c8 := by have := HC8.out; omega
              have hmk : ¬ c8 = key.size := by omega
              have hcF := fun w6 : World => view_map' g N cap ((p : Int) + 8) ((key.size : Int) + (V'.size : Int)) (p + 8) (key.size + V'.size) c8 w6 (by omega) (by omega) HC8.out (by omega) (by omega) hN hcapN
              have hcG := fun (w6 : World) (hb6 : Below w2.heap.size w2 w6) => equal_any (some ⟨g, p + 8, none⟩) ka key.size c8 key.size kc (fun j => B (p + 8 + j)) (strB key) w6 (.inr ⟨_, _, rfl, fun j hj => by simp only [Nat.zero_add]; exact (HC.out.1.later hb6).file.at_ _ (by omega)⟩) (HC.out.1.later hb6).ks
              rw [toStr_strB, hrs] at hcG
              simp only [beq_str] at hcG
              by_cases hKe : K = key
              · as_aux_lemma =>
                  obtain ⟨hf, hVV⟩ : found = true ∧ V' = V := by
                    rcases hkk with h | ⟨_, a, b⟩
                    · exact absurd hKe h
                    · exact ⟨a, b⟩
                  subst hf
                  subst hKe
                  have HRC := hide (And.intro hrec hVV)
                  simp only [decide_true] at hcG
                  have HG := hide hcG
                  have HF := hide hcF
                  clear hcG hcF hkk hrec hVV hrs ctx HN
                  go_wp2_with fail
                  refine hcC.mono ?_
                  rintro e w6 ⟨rfl, hb6⟩
                  have hb6w := HB3.out.trans (hb6.mono HB3.out.size)
                  have hcF := HF.out w6
                  have hcG := HG.out w6 hb6w
                  have HB6 := hide hb6w
                  clear hcC hb6 hb6w HF HG
                  go_wp2_with fail
                  refine hcF.mono ?_
                  rintro e w7 ⟨rfl, rfl⟩
                  clear hcF
                  go_wp2_with fail
                  refine hcG.mono ?_
                  rintro e w9 ⟨rfl, rfl⟩
                  clear hcG
                  go_wp2_with fail
                  refine (pad_any (some ⟨g, p + 8 + K.size, none⟩) V'.size (c8 - K.size) .nilIface w9 (by omega) (by omega)).mono ?_
                  rintro e wp ⟨m, rfl, hm1, hm2, rfl⟩
                  go_wp2_with fail
                  obtain ⟨hrec, hVV⟩ := HRC.out
                  subst hVV
                  refine bodyPost_ret (v := .tuple #[.slice (some ⟨g, p + 8 + K.size, none⟩) m (c8 - K.size), .int .i64 V'.size, .nilIface]) ?_ rfl ⟨HB6.out, _, m, _, rfl, hm1, hm2, .inr ⟨_, _, rfl, fun j hj => ?_⟩⟩
                  · simp [results, Ybaf.f20, go_sem]
                  · have hle := hrec.le
                    rw [(HC.out.1.later HB6.out).file.at_ _ (by omega), Nat.zero_add, hrec.vb j hj]
              · as_aux_lemma =>
                  simp only [decide_eq_false hKe] at hcG
                  have HG := hide hcG
                  have HF := hide hcF
                  clear hcG hcF hkk hrec hrs ctx hKe
                  go_wp2_with fail
                  refine hcC.mono ?_
                  rintro e w6 ⟨rfl, hb6⟩
                  have hb6w := HB3.out.trans (hb6.mono HB3.out.size)
                  have hcF := HF.out w6
                  have hcG := HG.out w6 hb6w
                  have HB6 := hide hb6w
                  clear hcC hb6 hb6w HF HG
                  go_wp2_with fail
                  refine hcF.mono ?_
                  rintro e w7 ⟨rfl, rfl⟩
                  clear hcF
                  go_wp2_with fail
                  refine hcG.mono ?_
                  rintro e w9 ⟨rfl, rfl⟩
                  clear hcG
                  go_wp2_with fail
                  have hn2 := HN.out w9 HB6.out
                  refine hn2.mono ?_
                  clear hn2
                  rintro e wn ⟨hbn, hres⟩
                  cases found with
                  | true =>
                    obtain ⟨a, cp, rfl, hcp, hsl⟩ : ∃ a cp, e = .returned (.tuple #[.slice a V.size cp, .nilIface]) ∧ V.size ≤ cp ∧ Sl wn a V.size (strB V) := by simpa using hres
                    have HR := hide (And.intro hbn hsl)
                    clear hres hbn hsl
                    go_wp2_with fail
                    refine (pad_any a V.size cp .nilIface wn hcp (by omega)).mono ?_
                    rintro e w4 ⟨m, rfl, hm1, hm2, rfl⟩
                    go_wp2_with fail
                    refine bodyPost_ret (v := .tuple #[.slice a m cp, .int .i64 V.size, .nilIface]) ?_ rfl ⟨HR.out.1, ⟨a, m, cp, rfl, hm1, hm2, HR.out.2⟩⟩
                    simp [results, Ybaf.f20, go_sem]
                  | false =>
                    obtain rfl : e = .returned (.tuple #[.slice none 0 0, .iface it E]) := by simpa using hres
                    have HR := hide hbn
                    clear hres hbn
                    go_wp2_with fail
                    refine (pad_any none 0 0 (.iface it E) wn (Nat.le_refl _) (by omega)).mono ?_
                    rintro e w4 ⟨m, rfl, hm1, hm2, rfl⟩
                    go_wp2_with fail
                    refine bodyPost_ret (v := .tuple #[.slice none m 0, .int .i64 0, .iface it E]) ?_ rfl ⟨HR.out, ⟨none, m, 0, rfl⟩⟩
                    simp [results, Ybaf.f20, go_sem]
            · as_aux_lemma =>
                have hklI : ((K.size : Int) == (key.size : Int)) = false := by simp; omega
                clear hkk hrec ctx
                go_wp2_with fail
                refine hcC.mono ?_
                rintro e w6 ⟨rfl, hb6⟩
                have HB6 := hide (HB3.out.trans (hb6.mono HB3.out.size))
                clear hcC hb6
                go_wp2_with fail
                have hn2 := HN.out w6 HB6.out
                refine hn2.mono ?_
                clear hn2
                rintro e wn ⟨hbn, hres⟩
                cases found with
                | true =>
                  obtain ⟨a, cp, rfl, hcp, hsl⟩ : ∃ a cp, e = .returned (.tuple #[.slice a V.size cp, .nilIface]) ∧ V.size ≤ cp ∧ Sl wn a V.size (strB V) := by simpa using hres
                  have HR := hide (And.intro hbn hsl)
                  clear hres hbn hsl
                  go_wp2_with fail
                  refine (pad_any a V.size cp .nilIface wn hcp (by omega)).mono ?_
                  rintro e w4 ⟨m, rfl, hm1, hm2, rfl⟩
                  go_wp2_with fail
                  refine bodyPost_ret (v := .tuple #[.slice a m cp, .int .i64 V.size, .nilIface]) ?_ rfl ⟨HR.out.1, ⟨a, m, cp, rfl, hm1, hm2, HR.out.2⟩⟩
                  simp [results, Ybaf.f20, go_sem]
                | false =>
                  obtain rfl : e = .returned (.tuple #[.slice none 0 0, .iface it E]) := by simpa using hres
                  have HR := hide hbn
                  clear hres hbn
                  go_wp2_with fail
                  refine (pad_any none 0 0 (.iface it E) wn (Nat.le_refl _) (by omega)).mono ?_
                  rintro e w4 ⟨m, rfl, hm1, hm2, rfl⟩
                  go_wp2_with fail
                  refine bodyPost_ret (v := .tuple #[.slice none m 0, .int .i64 0, .iface it E]) ?_ rfl ⟨HR.out, ⟨none, m, 0, rfl⟩⟩
                  simp [results, Ybaf.f20, go_sem]
      · as_aux_lemma =>
          have hX0I : (X 0 != (hk' : Int)) = true := by simp; exact hX0
          clear hX0
          have hq0 := (HSC.out w3.drew HB3.out.drew).out
          have hdiv : (X 0 + Y 0 * 4294967296) / 4294967296 = Y 0 := by omega
          have hmod : (X 0 + Y 0 * 4294967296) % 4294967296 = X 0 := by omega
          go_wp2_with fail
          go_region_held3 (fun _ => True) (trivial) (first
              | (go_at_call 25; first
                  | (refine hq0.mono ?_; clear hq0; rintro e wa ⟨rfl, hq1⟩)
                  | (refine hq2.mono ?_; clear hq2; rintro e wc ⟨rfl, hq3⟩)
                  | (refine hq4.mono ?_; clear hq4; rintro e we ⟨rfl, hq5⟩)
                  | (refine hq6.mono ?_; clear hq6; rintro e wg ⟨rfl, HBG⟩))
              | (go_at_call 24; first
                  | (refine hq1.mono ?_; clear hq1; rintro e wb ⟨rfl, hq2⟩)
                  | (refine hq3.mono ?_; clear hq3; rintro e wd ⟨rfl, hq4⟩)
                  | (refine hq5.mono ?_; clear hq5; rintro e wf ⟨rfl, hq6⟩)))
          rw [or_stops _ _ _ _ (stopB_01 X Y hk' 0) (stopB_01 X Y hk' 1) (stopB_01 X Y hk' 2) (stopB_01 X Y hk' 3)]
          obtain ⟨s, hs⟩ : ∃ s, s = stopB X Y hk' 0 + 2 * stopB X Y hk' 1 + 4 * stopB X Y hk' 2 + 8 * stopB X Y hk' 3 := ⟨_, rfl⟩
          rw [← hs]
          have hs16 : s < 16 := by
            have k0 := stopB_01 X Y hk' 0
            have k1 := stopB_01 X Y hk' 1
            have k2 := stopB_01 X Y hk' 2
            have k3 := stopB_01 X Y hk' 3
            omega
          have hbg : Below w2.heap.size w2 wg := HB3.out.drew.trans (HBG.out.mono HB3.out.size)
          have hfa := HFA.out.2 s hs
          have hctz := tz_any s wg hs16 (HC.out.2.later hbg)
          have HBg := hide hbg
          clear hs hbg HBG hdiv hmod HSC HFA
          rcases hfa with ⟨i, hi4, hti, hYi, hf⟩ | ⟨i, hi4, hti, p, hYi, hHit⟩ | ⟨hti, p, hp0, hYi⟩
          · as_aux_lemma =>
              subst hf
              rw [hti] at hctz
              have hxi : 0 ≤ X i ∧ X i < 4294967296 := by rw [HXY.out.1]; exact le32_range hB _
              have hcu := HU.out wg.drew i (32 - i * 8) hi4 (by omega) HBg.out.drew
              rw [hYi] at hcu
              generalize X i = xi at *
              have hi1 : (i : Int).tmod 4 = (i : Int) := by rw [Int.tmod_eq_emod_of_nonneg (by omega)]; omega
              have hi2 : IntKind.i64.wrap ((i : Int) * 8) = (i : Int) * 8 := by rw [IntKind.wrap_i64]; omega
              have hi3 : (0 : Int) ≤ (i : Int) * 8 := by omega
              have hi5 : (i : Int) * 8 ≤ 32 := by omega
              have hi6 : ((i : Int) * 8).toNat = i * 8 := by omega
              have hi7 : ¬ 32 = i * 8 := by omega
              have hi8 : (i : Int) < 4 := by omega
              have hdv : (xi + 0 * 4294967296) / 4294967296 = 0 := by omega
              have hg1 := fun (w5 : World) (hb : Below w2.heap.size w2 w5) => (HC.out.1.later hb).g1
              have HG1 := hide hg1
              clear hYi hg1
              go_wp2_with fail
              refine hctz.mono ?_
              rintro e wz ⟨rfl, rfl⟩
              clear hctz
              go_wp2_with fail
              go_region_held3 (fun _ => True) (trivial) (first | (go_at_call 24; (try rw [hi6]); (try rw [if_neg hi7]); refine hcu.mono ?_; rintro e w5 ⟨rfl, HB5⟩))
              clear hcu
              have g1 := HG1.out _ HB5.out
              clear HG1 HC HU HN HST
              go_wp2_with fail
              go_quiet (fail)
              go_wp2_with fail
              refine bodyPost_ret (v := .tuple #[.slice none 0 0, .int .i64 0, .iface it E]) ?_ rfl ⟨below_drewN _ HB5.out, ⟨none, 0, 0, rfl⟩⟩
              simp [results, Ybaf.f20, go_sem]
          · as_aux_lemma =>
              rw [hti] at hctz
              have hxi : 0 ≤ X i ∧ X i < 4294967296 := by rw [HXY.out.1]; exact le32_range hB _
              have hcu := HU.out wg.drew i (32 - i * 8) hi4 (by omega) HBg.out.drew
              rw [hYi] at hcu
              generalize X i = xi at *
              have hi1 : (i : Int).tmod 4 = (i : Int) := by rw [Int.tmod_eq_emod_of_nonneg (by omega)]; omega
              have hi2 : IntKind.i64.wrap ((i : Int) * 8) = (i : Int) * 8 := by rw [IntKind.wrap_i64]; omega
              have hi3 : (0 : Int) ≤ (i : Int) * 8 := by omega
              have hi5 : (i : Int) * 8 ≤ 32 := by omega
              have hi6 : ((i : Int) * 8).toNat = i * 8 := by omega
              have hi7 : ¬ 32 = i * 8 := by omega
              have hi8 : (i : Int) < 4 := by omega
              have hpb : p < 4294967296 := by obtain ⟨K, V', hrec, hp0, hpm, _⟩ := hHit; omega
              have hpI0 : ((p : Int) == 0) = false := by obtain ⟨K, V', hrec, hp0, hpm, _⟩ := hHit; simp; omega
              have hdv : (xi + (p : Int) * 4294967296) / 4294967296 = (p : Int) := by omega
              have hwp : IntKind.u32.wrap (p : Int) = (p : Int) := by rw [IntKind.wrap_u32]; omega
              have HH := hide hHit
              clear hYi hHit
              go_wp2_with fail
              refine hctz.mono ?_
              rintro e wz ⟨rfl, rfl⟩
              clear hctz
              go_wp2_with fail
              go_region_held3 (fun _ => True) (trivial) (first | (go_at_call 24; (try rw [hi6]); (try rw [if_neg hi7]); refine hcu.mono ?_; rintro e w5 ⟨rfl, HB5⟩))
              clear hcu
              obtain ⟨K, V', hrec, hp0, hpm, hkk⟩ := HH.out
              have ctx := HC.out.1.later HB5.out
              have hcC := ctx.pm hB hN (p : Int) p rfl (by omega)
              rw [hrec.kl, hrec.vl] at hcC
              have hpI : ((p : Int) == 0) = false := by simp; omega
              by_cases hkl : K.size = key.size
              · rw [hkl] at hcC hpm
                have hrs := rec_str hrec hB
                rw [hkl] at hrs
                obtain ⟨c8, HC8⟩ : ∃ c8, Hid (c8 = cap - (p + 8)) := ⟨_, rfl⟩
                have hc8 : key.size + V'.size < c8 := by have := HC8.out; omega
                have hmk : ¬ c8 = key.size := by omega
                have hcF := fun w6 : World => view_map' g N cap ((p : Int) + 8) ((key.size : Int) + (V'.size : Int)) (p + 8) (key.size + V'.size) c8 w6 (by omega) (by omega) HC8.out (by omega) (by omega) hN hcapN
                have hcG := fun (w6 : World) (hb6 : Below w2.heap.size w2 w6) => equal_any (some ⟨g, p + 8, none⟩) ka key.size c8 key.size kc (fun j => B (p + 8 + j)) (strB key) w6 (.inr ⟨_, _, rfl, fun j hj => by simp only [Nat.zero_add]; exact (HC.out.1.later hb6).file.at_ _ (by omega)⟩) (HC.out.1.later hb6).ks
                rw [toStr_strB, hrs] at hcG
                simp only [beq_str] at hcG
                by_cases hKe : K = key
                · as_aux_lemma =>
                    obtain ⟨hf, hVV⟩ : found = true ∧ V' = V := by
                      rcases hkk with h | ⟨_, a, b⟩
                      · exact absurd hKe h
                      · exact ⟨a, b⟩
                    subst hf
                    subst hKe
                    have HRC := hide (And.intro hrec hVV)
                    simp only [decide_true] at hcG
                    have HG := hide hcG
                    have HF := hide hcF
                    clear hcG hcF hkk hrec hVV hrs ctx HN
                    go_wp2_with fail
                    refine hcC.mono ?_
                    rintro e w6 ⟨rfl, hb6⟩
                    have hb6w := HB5.out.trans (hb6.mono HB5.out.size)
                    have hcF := HF.out w6
                    have hcG := HG.out w6 hb6w
                    have HB6 := hide hb6w
                    clear hcC hb6 hb6w HF HG
                    go_wp2_with fail
                    refine hcF.mono ?_
                    rintro e w7 ⟨rfl, rfl⟩
                    clear hcF
                    go_wp2_with fail
                    refine hcG.mono ?_
                    rintro e w9 ⟨rfl, rfl⟩
                    clear hcG
                    go_wp2_with fail
                    refine (pad_any (some ⟨g, p + 8 + K.size, none⟩) V'.size (c8 - K.size) .nilIface w9 (by omega) (by omega)).mono ?_
                    rintro e wp ⟨m, rfl, hm1, hm2, rfl⟩
                    go_wp2_with fail
                    obtain ⟨hrec, hVV⟩ := HRC.out
                    subst hVV
                    refine bodyPost_ret (v := .tuple #[.slice (some ⟨g, p + 8 + K.size, none⟩) m (c8 - K.size), .int .i64 V'.size, .nilIface]) ?_ rfl ⟨HB6.out, _, m, _, rfl, hm1, hm2, .inr ⟨_, _, rfl, fun j hj => ?_⟩⟩
                    · simp [results, Ybaf.f20, go_sem]
                    · have hle := hrec.le
                      rw [(HC.out.1.later HB6.out).file.at_ _ (by omega), Nat.zero_add, hrec.vb j hj]
                · as_aux_lemma =>
                    simp only [decide_eq_false hKe] at hcG
                    have HG := hide hcG
                    have HF := hide hcF
                    clear hcG hcF hkk hrec hrs ctx hKe
                    go_wp2_with fail
                    refine hcC.mono ?_
                    rintro e w6 ⟨rfl, hb6⟩
                    have hb6w := HB5.out.trans (hb6.mono HB5.out.size)
                    have hcF := HF.out w6
                    have hcG := HG.out w6 hb6w
                    have HB6 := hide hb6w
                    clear hcC hb6 hb6w HF HG
                    go_wp2_with fail
                    refine hcF.mono ?_
                    rintro e w7 ⟨rfl, rfl⟩
                    clear hcF
                    go_wp2_with fail
                    refine hcG.mono ?_
                    rintro e w9 ⟨rfl, rfl⟩
                    clear hcG
                    go_wp2_with fail
                    have hn2 := HN.out w9 HB6.out
                    refine hn2.mono ?_
                    clear hn2
                    rintro e wn ⟨hbn, hres⟩
                    cases found with
                    | true =>
                      obtain ⟨a, cp, rfl, hcp, hsl⟩ : ∃ a cp, e = .returned (.tuple #[.slice a V.size cp, .nilIface]) ∧ V.size ≤ cp ∧ Sl wn a V.size (strB V) := by simpa using hres
                      have HR := hide (And.intro hbn hsl)
                      clear hres hbn hsl
                      go_wp2_with fail
                      refine (pad_any a V.size cp .nilIface wn hcp (by omega)).mono ?_
                      rintro e w4 ⟨m, rfl, hm1, hm2, rfl⟩
                      go_wp2_with fail
                      refine bodyPost_ret (v := .tuple #[.slice a m cp, .int .i64 V.size, .nilIface]) ?_ rfl ⟨HR.out.1, ⟨a, m, cp, rfl, hm1, hm2, HR.out.2⟩⟩
                      simp [results, Ybaf.f20, go_sem]
                    | false =>
                      obtain rfl : e = .returned (.tuple #[.slice none 0 0, .iface it E]) := by simpa using hres
                      have HR := hide hbn
                      clear hres hbn
                      go_wp2_with fail
                      refine (pad_any none 0 0 (.iface it E) wn (Nat.le_refl _) (by omega)).mono ?_
                      rintro e w4 ⟨m, rfl, hm1, hm2, rfl⟩
                      go_wp2_with fail
                      refine bodyPost_ret (v := .tuple #[.slice none m 0, .int .i64 0, .iface it E]) ?_ rfl ⟨HR.out, ⟨none, m, 0, rfl⟩⟩
                      simp [results, Ybaf.f20, go_sem]
              · as_aux_lemma =>
                  have hklI : ((K.size : Int) == (key.size : Int)) = false := by simp; omega
                  clear hkk hrec ctx
                  go_wp2_with fail
                  refine hcC.mono ?_
                  rintro e w6 ⟨rfl, hb6⟩
                  have HB6 := hide (HB5.out.trans (hb6.mono HB5.out.size))
                  clear hcC hb6
                  go_wp2_with fail
                  have hn2 := HN.out w6 HB6.out
                  refine hn2.mono ?_
                  clear hn2
                  rintro e wn ⟨hbn, hres⟩
                  cases found with
                  | true =>
                    obtain ⟨a, cp, rfl, hcp, hsl⟩ : ∃ a cp, e = .returned (.tuple #[.slice a V.size cp, .nilIface]) ∧ V.size ≤ cp ∧ Sl wn a V.size (strB V) := by simpa using hres
                    have HR := hide (And.intro hbn hsl)
                    clear hres hbn hsl
                    go_wp2_with fail
                    refine (pad_any a V.size cp .nilIface wn hcp (by omega)).mono ?_
                    rintro e w4 ⟨m, rfl, hm1, hm2, rfl⟩
                    go_wp2_with fail
                    refine bodyPost_ret (v := .tuple #[.slice a m cp, .int .i64 V.size, .nilIface]) ?_ rfl ⟨HR.out.1, ⟨a, m, cp, rfl, hm1, hm2, HR.out.2⟩⟩
                    simp [results, Ybaf.f20, go_sem]
                  | false =>
                    obtain rfl : e = .returned (.tuple #[.slice none 0 0, .iface it E]) := by simpa using hres
                    have HR := hide hbn
                    clear hres hbn
                    go_wp2_with fail
                    refine (pad_any none 0 0 (.iface it E) wn (Nat.le_refl _) (by omega)).mono ?_
                    rintro e w4 ⟨m, rfl, hm1, hm2, rfl⟩
                    go_wp2_with fail
                    refine bodyPost_ret (v := .tuple #[.slice none m 0, .int .i64 0, .iface it E]) ?_ rfl ⟨HR.out, ⟨none, m, 0, rfl⟩⟩
                    simp [results, Ybaf.f20, go_sem]
          · as_aux_lemma =>
              rw [hti] at hctz
              have h32b : IntKind.i64.wrap 0 = 0 := by decide
              have hpI0 : ((p : Int) == 0) = false := by simp; omega
              have hx0 : 0 ≤ X 0 ∧ X 0 < 4294967296 := by rw [HXY.out.1]; exact le32_range hB _
              have hpb : (p : Int) < 4294967296 := by rw [← hYi, HXY.out.2]; exact (le32_range hB _).2
              have hcu := HU.out wg.drew 0 32 (by omega) (by omega) HBg.out.drew
              rw [hYi, Nat.zero_mul, Nat.add_zero] at hcu
              generalize X 0 = xi at *
              have hdv : (xi + (p : Int) * 4294967296) / 4294967296 = (p : Int) := by omega
              have hwp : IntKind.u32.wrap (p : Int) = (p : Int) := by rw [IntKind.wrap_u32]; omega
              go_wp2_with fail
              refine hctz.mono ?_
              rintro e wz ⟨rfl, rfl⟩
              clear hctz
              go_wp2_with fail
              go_region_held3 (fun _ => True) (trivial) (first | (go_at_call 24; refine hcu.mono ?_; rintro e w5 ⟨rfl, HB5⟩))
              clear hcu h32b
              go_wp2_with fail
              clear hpI0 hdv hwp hpb hp0 hYi hti HXY HU HST HC
              have hn2 := HN.out w5 HB5.out
              refine hn2.mono ?_
              clear hn2
              rintro e wn ⟨hbn, hres⟩
              cases found with
              | true =>
                obtain ⟨a, cp, rfl, hcp, hsl⟩ : ∃ a cp, e = .returned (.tuple #[.slice a V.size cp, .nilIface]) ∧ V.size ≤ cp ∧ Sl wn a V.size (strB V) := by simpa using hres
                have HR := hide (And.intro hbn hsl)
                clear hres hbn hsl
                go_wp2_with fail
                refine (pad_any a V.size cp .nilIface wn hcp (by omega)).mono ?_
                rintro e w4 ⟨m, rfl, hm1, hm2, rfl⟩
                go_wp2_with fail
                refine bodyPost_ret (v := .tuple #[.slice a m cp, .int .i64 V.size, .nilIface]) ?_ rfl ⟨HR.out.1, ⟨a, m, cp, rfl, hm1, hm2, HR.out.2⟩⟩
                simp [results, Ybaf.f20, go_sem]
              | false =>
                obtain rfl : e = .returned (.tuple #[.slice none 0 0, .iface it E]) := by simpa using hres
                have HR := hide hbn
                clear hres hbn
                go_wp2_with fail
                refine (pad_any none 0 0 (.iface it E) wn (Nat.le_refl _) (by omega)).mono ?_
                rintro e w4 ⟨m, rfl, hm1, hm2, rfl⟩
                go_wp2_with fail
                refine bodyPost_ret (v := .tuple #[.slice none m 0, .int .i64 0, .iface it E]) ?_ rfl ⟨HR.out, ⟨none, m, 0, rfl⟩⟩
                simp [results, Ybaf.f20, go_sem]
  · as_aux_lemma =>
      have h4I : decide ((4 : Int) ≤ (L : Int) - (home : Int)) = false := by simp; omega
      go_enter Ybaf.func20, Ybaf.ntmps20
      go_wp2_with fail
      refine hcall1.mono ?_
      rintro e w1 ⟨rfl, rfl⟩
      clear hcall1
      go_wp2_with fail
      refine hcall2.mono ?_
      rintro e w2 ⟨rfl, rfl⟩
      clear hcall2
      go_wp2_with fail
      have hn2 := HN.out (w2.alloc (.cells #[.int .u32 tpo, .int .u32 L] 41)) ((Below.refl _ _).alloc (Nat.le_refl _) _)
      rw [World.size_alloc] at hn2
      refine hn2.mono ?_
      clear hn2
      rintro e wn ⟨hbn, hres⟩
      cases found with
      | true =>
        obtain ⟨a, cp, rfl, hcp, hsl⟩ : ∃ a cp, e = .returned (.tuple #[.slice a V.size cp, .nilIface]) ∧ V.size ≤ cp ∧ Sl wn a V.size (strB V) := by simpa using hres
        have HR := hide (And.intro hbn hsl)
        clear hres hbn hsl
        go_wp2_with fail
        refine (pad_any a V.size cp .nilIface wn hcp (by omega)).mono ?_
        rintro e w4 ⟨m, rfl, hm1, hm2, rfl⟩
        go_wp2_with fail
        refine bodyPost_ret (v := .tuple #[.slice a m cp, .int .i64 V.size, .nilIface]) ?_ rfl ⟨HR.out.1, ⟨a, m, cp, rfl, hm1, hm2, HR.out.2⟩⟩
        simp [results, Ybaf.f20, go_sem]
      | false =>
        obtain rfl : e = .returned (.tuple #[.slice none 0 0, .iface it E]) := by simpa using hres
        have HR := hide hbn
        clear hres hbn
        go_wp2_with fail
        refine (pad_any none 0 0 (.iface it E) wn (Nat.le_refl _) (by omega)).mono ?_
        rintro e w4 ⟨m, rfl, hm1, hm2, rfl⟩
        go_wp2_with fail
        refine bodyPost_ret (v := .tuple #[.slice none m 0, .int .i64 0, .iface it E]) ?_ rfl ⟨HR.out, ⟨none, m, 0, rfl⟩⟩
        simp [results, Ybaf.f20, go_sem]
end Go.Proofs.YbulkclmFmt
