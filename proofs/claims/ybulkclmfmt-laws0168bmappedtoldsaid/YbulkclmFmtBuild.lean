import Derived.Test.YbulkclmFmtHash
import Derived.Test.YbulkclmFmtRead
import Derived.Test.YbulkclmFmtFile
import Derived.Test.YbulkclmFmtThree
import Derived.Deep.RegionWith
import Derived.Deep.RegionHeld3
namespace Go.Proofs.YbulkclmFmt
open Go.ChangeShapes Go.WideShapes Go.ChangeAt Go.RowKit
set_option linter.unusedVariables false

/-- The world in which the building begins. -/
def startW (w : World) (n : Nat) : World := (((w.alloc (.cells (madeCells #[.int .u8 0] 2048) 5)).alloc (.cells (madeCells #[.int .u32 0] n) 39)).alloc (.cells (madeCells #[.int .u32 0] n) 39)).alloc (.cells Z50 50)

theorem bld_start (w : World) (n : Nat) : Bld w (startW w n) w.heap.size n w.heap.size 2048 2048 (fun _ => 0) (fun _ => 0) (fun _ => 0) (fun _ => 0) := by
  have b0 := Row.made w 2048
  obtain ⟨c1, h1, s1, g1⟩ := World.rowIs_made (w.alloc (.cells (madeCells #[.int .u8 0] 2048) 5)) (.int .u32 0) n 39
  obtain ⟨c2, h2, s2, g2⟩ := World.rowIs_made ((w.alloc (.cells (madeCells #[.int .u8 0] 2048) 5)).alloc (.cells (madeCells #[.int .u32 0] n) 39)) (.int .u32 0) n 39
  have h3 := heap_alloc_new (((w.alloc (.cells (madeCells #[.int .u8 0] 2048) 5)).alloc (.cells (madeCells #[.int .u32 0] n) 39)).alloc (.cells (madeCells #[.int .u32 0] n) 39)) (.cells Z50 50)
  simp only [World.size_alloc] at h1 h2 h3
  have bl : ∀ (w' : World) (o : Obj), Below w'.heap.size w' (w'.alloc o) := fun w' o => (Below.refl _ _).alloc (Nat.le_refl _) _
  have r1 := URow.of_block h1 (fun j hj => g1 j hj)
  have r2 := URow.of_block h2 (fun j hj => g2 j hj)
  have r3 := URow.of_block h3 (fun j hj => Z50_get hj)
  exact ⟨((b0.later (bl _ _)).later (bl _ _)).later (bl _ _), fun j => ⟨by omega, by omega⟩, (r1.later (bl _ _)).later (bl _ _), r2.later (bl _ _), r3,
    ((((Below.refl _ w).alloc (Nat.le_refl _) _).alloc (by simp) _).alloc (by simp; omega) _).alloc (by simp; omega) _, .inl rfl, by simp [startW], Nat.le_refl _⟩

theorem Bld.congr {w0 w : World} {s n g cap m : Nat} {B B' : Nat → Int} {F G C C' : Nat → Int} (h : Bld w0 w s n g cap m B F G C) (eB : B = B') (eC : ∀ t, t < 256 → C t = C' t) : Bld w0 w s n g cap m B' F G C' := by
  subst eB
  exact ⟨h.row, h.byt, h.rp, h.hs, h.ct.congr eC, h.bel, h.gd, h.sz, h.sle⟩

set_option maxRecDepth 100000 in
set_option maxHeartbeats 16000000 in
theorem file_try (a0 a1 : Option Addr) (l0 c0 l1 c1 n : Nat) (Ks Vs : Nat → ByteArray) (H : Nat → Nat) (w : World) (hn : n ≤ 512) (hK : StrRow w a0 n Ks) (hV : StrRow w a1 n Vs) (h0 : n ≤ l0) (h1 : n ≤ l1) (hpos : posT Ks Vs n ≤ 4000000) (hH : ∀ i, H i = hashN (Ks i)) (h3 : w.cell? ⟨3, 0, none⟩ = some (.int .u32 33)) :
    Calls Ybaf.prog 6 #[.slice a0 l0 c0, .slice a1 l1 c1, .int .i64 n] w fun e w' => ∃ g cap N B S, e = .returned (.slice (some ⟨g, 0, none⟩) N cap) ∧ Row w' g cap N B ∧ Below w.heap.size w w' ∧ w.heap.size ≤ g ∧ Byt B ∧ ThreeOK B n Ks Vs H n S ∧ N = tposT (posT Ks Vs n) (cntT H n) 256 ∧ N ≤ 16777216 := by
  have hmk5 : ∀ w : World, (Instr.makeSlice 23 (.int .i64 2048) (.int .i64 2048)).run Ybaf.prog w = .ok (.slice (some ⟨w.heap.size, 0, none⟩) 2048 2048) (w.alloc (.cells (madeCells #[.int .u8 0] 2048) 5)) := fun w => run_make_row' (P := Ybaf.prog) 23 5 (.int .u8 0) 1 Ybaf.underlying23 info5' rfl .i64 .i64 2048 (by omega) (by omega) w
  have hmk39 := fun w => run_make_row' (P := Ybaf.prog) 49 39 (.int .u32 0) 4 Ybaf.underlying49 info39 rfl .i64 .i64 n (by omega) (by omega) w
  have hz := zv50
  have hst := bld_start w n
  have HK := hide (And.intro hK hV)
  have H3 := hide h3
  clear hK hV h3
  go_enter Ybaf.func6, Ybaf.ntmps6
  go_wp2_with fail
  clear hmk5 hmk39
  go_loopw [11, 7] (fun t fv wr => ∃ (k g cap : Nat) (B F G : Nat → Int), k ≤ n ∧ t = .int .i64 k ∧ fv = .slice (some ⟨g, 0, none⟩) (posT Ks Vs k) cap ∧ Bld w wr w.heap.size n g cap (posT Ks Vs k) B F G (fun t => (cntT H k t : Int)) ∧ (∀ i, i < k → RecOK B (posT Ks Vs k) (posT Ks Vs i) (Ks i) (Vs i)) ∧ (∀ j, j < 2048 → B j = 0) ∧ (∀ i, i < k → F i = posT Ks Vs i) ∧ (∀ i, i < k → G i = H i)) (fun t _ _ => n - (intOf t).toNat)
  case atStart => exact ⟨0, _, _, _, _, _, Nat.zero_le _, rfl, rfl, hst, fun i hi => by omega, fun j _ => rfl, fun i hi => by omega, fun i hi => by omega⟩
  case round =>
    clear hst
    obtain ⟨k, g, cap, B, F, G, hk, rfl, rfl, hb, hrec, hzero, hF, hG⟩ := hrel
    by_cases hlt : k < n
    · as_aux_lemma =>
        have hpk := posT_mono Ks Vs hlt
        have hpk2 := posT_ge Ks Vs k
        obtain ⟨hKs, hVs⟩ := HK.out
        rcases hKs with hx | ⟨b0, off0, rfl, hb0, hc0⟩
        · omega
        rcases hVs with hx | ⟨b1, off1, rfl, hb1, hc1⟩
        · omega
        have hkl : k < l0 := by omega
        have hkl1 : k < l1 := by omega
        have hcells : ∀ w' : World, Below w.heap.size w w' → w'.cell? ⟨b0, off0 + k, none⟩ = some (.string (Ks k)) ∧ w'.cell? ⟨b1, off1 + k, none⟩ = some (.string (Vs k)) ∧ w'.cell? ⟨3, 0, none⟩ = some (.int .u32 33) := fun w' h =>
          ⟨(h.cell (p := ⟨b0, off0 + k, none⟩) hb0).trans (hc0 k hlt), (h.cell (p := ⟨b1, off1 + k, none⟩) hb1).trans (hc1 k hlt), (h.cell (p := ⟨3, 0, none⟩) (World.block_lt_of_cell? w _ H3.out)).trans H3.out⟩
        have HCE := hide hcells
        clear hc0 hc1 hcells
        have hposk : posT Ks Vs (k + 1) = posT Ks Vs k + 8 + (Ks k).size + (Vs k).size := rfl
        have HPK := hide hposk
        clear hposk
        generalize hpe : posT Ks Vs k = pk at *
        have f1 := hb.rp.at_ k hlt
        have f1f := hb.rp.free k
        have hba := hb.setF k hlt pk
        obtain ⟨wa, hwa⟩ : ∃ wa, wa = wr.setCell ⟨w.heap.size + 1, k, none⟩ (.int .u32 pk) := ⟨_, rfl⟩
        rw [← hwa] at hba
        obtain ⟨ck, cv, c3⟩ := HCE.out wa hba.bel
        have hks : (Ks k).size ≤ 4000000 := by omega
        have hvs : (Vs k).size ≤ 4000000 := by omega
        have hwk : IntKind.u32.wrap ((Ks k).size : Int) = ((Ks k).size : Int) := by rw [IntKind.wrap_u32]; omega
        have hwv : IntKind.u32.wrap ((Vs k).size : Int) = ((Vs k).size : Int) := by rw [IntKind.wrap_u32]; omega
        have hcall1 : Calls Ybaf.prog 9 #[.agg #[], .slice (some ⟨g, 0, none⟩) pk cap, .int .u32 (Ks k).size] wa.drew fun e wb => ∃ g1 cap1, e = .returned (.slice (some ⟨g1, 0, none⟩) (pk + 4) cap1) ∧ wb.cell? ⟨b0, off0 + k, none⟩ = some (.string (Ks k)) ∧ Hid (Bld w wb w.heap.size n g1 cap1 (pk + 4) (catB B pk (bytes4 (Ks k).size)) (fun i => if i = k then pk else F i) G (fun t => (cntT H k t : Int))) := by
          refine (append32_any g cap pk B (Ks k).size wa.drew hba.drew.row (by omega) (by omega) (by omega)).mono ?_
          rintro e wb ⟨g1, cap1, rfl, hX1⟩
          have hb1 := hba.drew.step hX1.2.1 hX1.1 (catB_byt hb.byt (bytes4_byt _) _) hX1.2.2
          exact ⟨g1, cap1, rfl, (HCE.out wb hb1.bel).1, hb1⟩
        rw [hwa] at ck cv hcall1
        clear hwa hba c3 cv
        go_wp2_with fail
        go_region_held3 (fun w' => w'.cell? ⟨b0, off0 + k, none⟩ = some (.string (Ks k))) (first | assumption | (simpa using ck)) (first | (go_at_call 9; refine hcall1.mono ?_; rintro e wb ⟨g1, cap1, rfl, hckb, HB1⟩))
        clear hcall1 f1 f1f ck
        obtain ⟨ck, cv, c3⟩ := HCE.out wb HB1.out.bel
        have hcall2 : Calls Ybaf.prog 9 #[.agg #[], .slice (some ⟨g1, 0, none⟩) (pk + 4) cap1, .int .u32 (Vs k).size] wb.drew fun e wc => ∃ g2 cap2, e = .returned (.slice (some ⟨g2, 0, none⟩) (pk + 4 + 4) cap2) ∧ wc.cell? ⟨b1, off1 + k, none⟩ = some (.string (Vs k)) ∧ Hid (Bld w wc w.heap.size n g2 cap2 (pk + 4 + 4) (catB (catB B pk (bytes4 (Ks k).size)) (pk + 4) (bytes4 (Vs k).size)) (fun i => if i = k then pk else F i) G (fun t => (cntT H k t : Int))) := by
          refine (append32_any g1 cap1 (pk + 4) _ (Vs k).size wb.drew HB1.out.drew.row (by omega) (by omega) (by omega)).mono ?_
          rintro e wc ⟨g2, cap2, rfl, hX2⟩
          have hb2 := HB1.out.drew.step hX2.2.1 hX2.1 (catB_byt HB1.out.byt (bytes4_byt _) _) hX2.2.2
          exact ⟨g2, cap2, rfl, (HCE.out wc hb2.bel).2.1, hb2⟩
        clear c3 ck hckb
        go_wp2_with fail
        go_region_held3 (fun w' => w'.cell? ⟨b1, off1 + k, none⟩ = some (.string (Vs k))) (first | assumption | (simpa using cv)) (first | (go_at_call 9; refine hcall2.mono ?_; rintro e wc ⟨g2, cap2, rfl, hckc, HB2⟩))
        clear hcall2 cv hckc HB1
        have hb2 := HB2.out
        obtain ⟨ck2, cv2, _⟩ := HCE.out wc hb2.bel
        obtain ⟨g3, cap3, wd, hrunA, hR3, hh3, hg3⟩ := hb2.row.append (tx := 9) (ty := 23) (C := strB (Ks k)) (m := (Ks k).size) (by rw [← byteCells_strB]; exact Src.ofString wc Ybaf.underlying9 (Ks k)) (by omega)
        have hb3 := hb2.step hh3 hR3 (catB_byt hb2.byt (strB_byt _) _) hg3
        obtain ⟨ck3, cv3, _⟩ := HCE.out wd hb3.bel
        obtain ⟨g4, cap4, we, hrunB, hR4, hh4, hg4⟩ := hb3.row.append (tx := 9) (ty := 23) (C := strB (Vs k)) (m := (Vs k).size) (by rw [← byteCells_strB]; exact Src.ofString wd Ybaf.underlying9 (Vs k)) (by omega)
        have hb4 := hb3.step hh4 hR4 (catB_byt hb3.byt (strB_byt _) _) hg4
        obtain ⟨ck4, cv4, _⟩ := HCE.out we hb4.bel
        obtain ⟨kc, wf, hconv, hkc, hbf, hsf, hatf⟩ := bytes_of we (Ks k)
        have hb5 := hb4.later hbf
        obtain ⟨_, _, c35⟩ := HCE.out wf hb5.bel
        have hcallH := hash_any (some ⟨we.heap.size, 0, none⟩) (Ks k).size kc (strB (Ks k)) wf (strB_byt _) (by omega) c35 (.inr ⟨_, _, rfl, hatf⟩)
        rw [hashN_eq, ← hH k] at hcallH
        have hHlt : H k < 4294967296 := by rw [hH k]; exact hashN_lt _
        have hs5 := hb5.hs.at_ k hlt
        have hs5f := hb5.hs.free k
        obtain ⟨t, ht⟩ : ∃ t, t = H k % 256 := ⟨_, rfl⟩
        have htI : ((H k : Int) % 256) = (t : Int) := by omega
        have ht256 : t < 256 := by omega
        have ct5 := hb5.ct.at_ t ht256
        have ct5f := hb5.ct.free t
        have hcn := cntT_le H k t
        have hne1 : w.heap.size + 1 + 1 + 1 ≠ w.heap.size + 1 + 1 := by omega
        have HB := hide (And.intro hb5 (And.intro hrec (And.intro hzero (And.intro hF (And.intro hG ht)))))
        clear hb2 hb3 hb4 hb5 hR3 hR4 hh3 hh4 hg3 hg4 hbf hsf hatf c35 hb hrec hzero hF hG ht hkc
        generalize hck : H k = hk' at *
        generalize hct : cntT H k t = ctk at *
        go_wp2_with (at_builtin; first | refine Lib.wpList_append_run _ rfl _ _ _ _ rfl _ _ rfl rfl _ _ hrunA ?_ | refine Lib.wpList_append_run _ rfl _ _ _ _ rfl _ _ rfl rfl _ _ hrunB ?_)
        refine hcallH.mono ?_
        rintro e w7 ⟨rfl, rfl⟩
        clear hcallH hrunA hrunB hconv ck2 cv2 ck3 cv3 ck4 cv4
        have HC1 := hide hck
        have HC2 := hide hct
        have HPE := hide hpe
        clear hck hct hpe
        go_wp2_with fail
        go_roundw
        case rel =>
          obtain ⟨hb5, hrec, hzero, hF, hG, ht⟩ := HB.out
          have hcn : ∀ t', cntT H (k + 1) t' = cntT H k t' + (if H k % 256 = t' then 1 else 0) := fun _ => rfl
          refine ⟨k + 1, g4, cap4, recB B pk (Ks k) (Vs k), (fun i => if i = k then (pk : Int) else F i), (fun i => if i = k then (hk' : Int) else G i), by omega, by go_num, by rw [HPK.out, show pk + 8 + (Ks k).size + (Vs k).size = pk + 4 + 4 + (Ks k).size + (Vs k).size by omega], ?_, ?_, ?_, ?_, ?_⟩
          · rw [HPK.out]
            exact ((hb5.setG k hlt hk').setC t ht256 (ctk + 1)).congr rfl (fun t' h' => by
              rw [hcn, HC1.out]
              by_cases e : t' = t
              · subst e; rw [if_pos rfl, if_pos ht.symm, HC2.out]; rfl
              · rw [if_neg e, if_neg (fun h => e (by rw [ht]; exact h.symm))]; rfl)
          · intro i hi
            rw [HPK.out]
            by_cases e : i = k
            · subst e; rw [HPE.out]; exact recB_ok (by omega) (by omega)
            · have hr := hrec i (by omega)
              have hm := posT_mono Ks Vs (show i < k by omega)
              rw [HPE.out] at hm
              exact hr.congr (fun j h1 h2 => recB_old (by omega)) (by omega)
          · intro j hj
            rw [recB_old (by omega)]; exact hzero j hj
          · intro i hi
            by_cases e : i = k
            · subst e; show (if i = i then (pk : Int) else F i) = _; rw [if_pos rfl, HPE.out]
            · show (if i = k then (pk : Int) else F i) = _; rw [if_neg e]; exact hF i (by omega)
          · intro i hi
            by_cases e : i = k
            · subst e; show (if i = i then (hk' : Int) else G i) = _; rw [if_pos rfl, HC1.out]
            · show (if i = k then (hk' : Int) else G i) = _; rw [if_neg e]; exact hG i (by omega)
        case measure => simp [intOf]; omega
    · as_aux_lemma =>
        have hkn : k = n := by omega
        subst hkn
        have HB := hide (And.intro hb (And.intro hrec (And.intro hzero (And.intro hF hG))))
        clear hb hrec hzero hF hG hlt
        obtain ⟨wo, rfl⟩ : ∃ wo : World, wo = wr := ⟨_, rfl⟩
        go_wp2_with fail
        clear hz
        have hcle : ∀ u, cntT H k u ≤ 512 := fun u => Nat.le_trans (cntT_le H k u) hn
        have htle : ∀ u, u ≤ 256 → tposT (posT Ks Vs k) (cntT H k) u ≤ 8000000 := fun u hu => by
          have h1 := tposT_le (posT Ks Vs k) (cntT H k) 512 hcle u
          have h2 : u * (16 * 512) ≤ 256 * (16 * 512) := Nat.mul_le_mul_right _ hu
          omega
        have HLE := hide (And.intro hcle htle)
        clear hcle htle
        go_loopw [14, 7] (fun tv fv w2 => ∃ (t g cap : Nat) (B P Ln : Nat → Int), t ≤ 256 ∧ tv = .int .i64 t ∧ fv = .slice (some ⟨g, 0, none⟩) (tposT (posT Ks Vs k) (cntT H k) t) cap ∧ BldT w w2 w.heap.size k wo.heap.size g cap (tposT (posT Ks Vs k) (cntT H k) t) B F G (fun u => (cntT H k u : Int)) P Ln ∧ TwoOK B k Ks Vs (cntT H k) t ∧
            (∀ u, u < t → Ln u = 2 * cntT H k u ∧ (cntT H k u ≠ 0 → P u = tposT (posT Ks Vs k) (cntT H k) u)) ∧ (∀ u, t ≤ u → Ln u = 0)) (fun tv _ _ => 256 - (intOf tv).toNat)
        case atStart =>
          obtain ⟨hb, hrec, hzero, hF, hG⟩ := HB.out
          exact ⟨0, g, cap, B, _, _, by omega, rfl, rfl, bldT_start hb, ⟨hrec, fun u hu => by omega, fun j _ hj => hzero j hj, fun j h1 h2 => by have : tposT (posT Ks Vs k) (cntT H k) 0 = posT Ks Vs k := rfl; omega⟩, fun u hu => by omega, fun u _ => rfl⟩
        case round =>
          have HFG := hide HB.out.2.2.2
          clear HB B
          obtain ⟨t, g, cap, B, P, Ln, ht, rfl, rfl, hb, h2, hPL, hL0⟩ := hrel
          by_cases htl : t < 256
          · have hct := hb.b.ct.at_ t htl
            have hctf := hb.b.ct.free t
            have hcle := HLE.out.1 t
            have htle := HLE.out.2 t ht
            have htle1 := HLE.out.2 (t + 1) (by omega)
            have htp2 := tposT_ge (posT Ks Vs k) (cntT H k) t
            have hpg := posT_ge Ks Vs k
            have HSU : Hid (tposT (posT Ks Vs k) (cntT H k) (t + 1) = tposT (posT Ks Vs k) (cntT H k) t + 16 * cntT H k t) := rfl
            by_cases hc : cntT H k t = 0
            · as_aux_lemma =>
                rw [hc] at hct
                have HX := hide (And.intro hb (And.intro h2 (And.intro hPL (And.intro hL0 hc))))
                clear hb h2 hPL hL0 hc hcle htle htle1 htp2
                generalize tposT (posT Ks Vs k) (cntT H k) t = tp at *
                go_wp2_with fail
                go_roundw
                case rel =>
                  obtain ⟨hb, h2, hPL, hL0, hc⟩ := HX.out
                  have e : tposT (posT Ks Vs k) (cntT H k) (t + 1) = tp := by rw [HSU.out, hc]; omega
                  refine ⟨t + 1, g, cap, B, P, Ln, by omega, by go_num, by rw [e], by rw [e]; exact hb, h2.skip htl hc, fun u hu => ?_, fun u hu => hL0 u (by omega)⟩
                  by_cases eu : u = t
                  · subst eu; exact ⟨by rw [hL0 u (Nat.le_refl _), hc]; rfl, fun h => absurd hc h⟩
                  · exact hPL u (by omega)
                case measure => simp [intOf]; omega
            · as_aux_lemma =>
                have hctI : (((cntT H k t : Nat) : Int) == 0) = false := by simp; omega
                have HTL := hide (h2.lay htl hc (by omega) (by omega))
                have hL0t := hL0 t (Nat.le_refl _)
                have pc0 := hb.ps.at_ t htl
                have pcf := hb.ps.free t
                have lc0 := hb.ln.at_ t htl
                have lcf := hb.ln.free t
                have hpbs := hb.pbs
                have hne3 : wo.heap.size ≠ w.heap.size + 3 := by omega
                have hne4 : wo.heap.size + 1 ≠ w.heap.size + 3 := by omega
                have hne5 : w.heap.size + 3 ≠ wo.heap.size := by omega
                have hne6 : w.heap.size + 3 ≠ wo.heap.size + 1 := by omega
                have HPL := hide (And.intro hPL hL0)
                obtain ⟨ctt, hctE⟩ : ∃ ctt, ctt = cntT H k t := ⟨_, rfl⟩
                obtain ⟨tp, htE⟩ : ∃ tp, tp = tposT (posT Ks Vs k) (cntT H k) t := ⟨_, rfl⟩
                rw [← hctE] at hct hcle hctI HSU HTL
                rw [← htE] at hb htle htp2 HSU HTL ⊢
                have hba := (hb.setP t htl tp).setL t htl (2 * ctt)
                have hctp : 0 < ctt := by omega
                obtain ⟨g1, cap1, wc, hrunZ, hRZ, hhZ, hgZ⟩ := hba.b.row.appendZ (ty := 23) (16 * ctt) (by omega) (by omega)
                have hbc := hba.step hhZ hRZ (catB_byt hba.b.byt (fun _ => ⟨by omega, by omega⟩) _) hgZ
                have ez : ((16 * ctt : Nat) : Int) = 2 * (ctt : Int) * 8 := by omega
                rw [ez] at hrunZ
                have hcapl := hbc.b.row.le
                have hcne : ¬ cap1 = t * 8 := by omega
                have hcne4 : ¬ cap1 = t * 8 + 4 := by omega
                have hnp : wo.heap.size ≠ g1 ∧ wo.heap.size + 1 ≠ g1 := by have := hbc.gp; omega
                have cP : wc.cell? ⟨wo.heap.size, t, none⟩ = some (.int .u32 tp) := by have := hbc.ps.at_ t htl; simpa using this
                have hcall1 : Calls Ybaf.prog 11 #[.agg #[], .slice (some ⟨g1, t * 8, none⟩) (tp + 16 * ctt - t * 8) (cap1 - t * 8), .int .u32 tp] wc.drew fun e wd => (∃ u, e = .returned u) ∧ wd.cell? ⟨wo.heap.size, t, none⟩ = some (.int .u32 tp) ∧ wd.cell? ⟨wo.heap.size + 1, t, none⟩ = some (.int .u32 (2 * ctt)) ∧
                    Hid (BldT w wd w.heap.size k wo.heap.size g1 cap1 (tp + 16 * ctt) (put4 (catB B tp (fun _ => 0)) (t * 8) tp) F G (fun u => (cntT H k u : Int)) (fun u => if u = t then (tp : Int) else P u) (fun u => if u = t then 2 * (ctt : Int) else Ln u)) := by
                  refine (put32_any g1 (t * 8) cap1 (tp + 16 * ctt) (tp + 16 * ctt - t * 8) (cap1 - t * 8) _ tp wc.drew hbc.drew.b.row (by omega) (by omega) (by omega) (by omega)).mono ?_
                  rintro e wd ⟨hu, hR, hh⟩
                  have hbd := hbc.drew.step hh hR (put4_byt hbc.b.byt _ _) (.inl rfl)
                  exact ⟨hu, by have := hbd.ps.at_ t htl; simpa using this, by have := hbd.ln.at_ t htl; simpa using this, hbd⟩
                have HX := hide hpbs
                rw [hL0t] at lc0
                have HCE := hide (And.intro hctE htE)
                clear hctE htE
                have hs1 : (0 : Int) ≤ (t : Int) * 8 := by omega
                have hs2 : (t : Int) * 8 ≤ ((tp + 16 * ctt : Nat) : Int) := by omega
                have hs3 : (t : Int) * 8 ≤ (tp : Int) + 16 * (ctt : Int) := by omega
                have hs4 : ((tp + 16 * ctt : Nat) : Int) ≤ (cap1 : Int) := by omega
                have hw8 : IntKind.i64.wrap ((t : Int) * 8) = (t : Int) * 8 := by rw [IntKind.wrap_i64]; omega
                have hw84 : IntKind.i64.wrap ((t : Int) * 8 + 4) = (t : Int) * 8 + 4 := by rw [IntKind.wrap_i64]; omega
                have hs7 : (0 : Int) ≤ (t : Int) * 8 + 4 := by omega
                have hs8 : (t : Int) * 8 + 4 ≤ (tp : Int) + 16 * (ctt : Int) := by omega
                have hs5 : t * 8 ≤ tp + 16 * ctt := by omega
                have hn8 : ((t : Int) * 8).toNat = t * 8 := by omega
                have hn84 : ((t : Int) * 8 + 4).toNat = t * 8 + 4 := by omega
                have hs6 : (tp : Int) + 16 * (ctt : Int) ≤ (cap1 : Int) := by omega
                clear hb h2 hPL hL0 hba hRZ hhZ hgZ hbc hpbs ez HX hc hL0t
                go_wp2_with (at_builtin; refine Lib.wpList_append_run _ rfl _ _ _ _ rfl _ _ rfl rfl _ _ hrunZ ?_)
                go_region_held3 (fun w' => w'.cell? ⟨wo.heap.size, t, none⟩ = some (.int .u32 tp)) (first | assumption | (simpa using cP)) (first | (go_at_call 11; (try rw [hn8]); (try rw [if_neg hcne]); refine hcall1.mono ?_; rintro e wd ⟨⟨u, rfl⟩, hcP, hcL, HBD⟩))
                clear hcall1 hrunZ pc0 pcf lc0 lcf cP hct hctf
                have hcall2 : Calls Ybaf.prog 11 #[.agg #[], .slice (some ⟨g1, t * 8 + 4, none⟩) (tp + 16 * ctt - (t * 8 + 4)) (cap1 - (t * 8 + 4)), .int .u32 (2 * ctt)] wd.drew fun e we => (∃ u, e = .returned u) ∧ we.cell? ⟨wo.heap.size + 1, t, none⟩ = some (.int .u32 (2 * ctt)) ∧
                    Hid (BldT w we w.heap.size k wo.heap.size g1 cap1 (tp + 16 * ctt) (put4 (put4 (catB B tp (fun _ => 0)) (t * 8) tp) (t * 8 + 4) (2 * ctt)) F G (fun u => (cntT H k u : Int)) (fun u => if u = t then (tp : Int) else P u) (fun u => if u = t then 2 * (ctt : Int) else Ln u)) := by
                  refine (put32_any g1 (t * 8 + 4) cap1 (tp + 16 * ctt) (tp + 16 * ctt - (t * 8 + 4)) (cap1 - (t * 8 + 4)) _ (2 * ctt) wd.drew HBD.out.drew.b.row (by omega) (by omega) (by omega) (by omega)).mono ?_
                  rintro e we ⟨hu, hR, hh⟩
                  have hbe := HBD.out.drew.step hh hR (put4_byt HBD.out.b.byt _ _) (.inl rfl)
                  exact ⟨hu, by have := hbe.ln.at_ t htl; simpa using this, hbe⟩
                clear hcP
                go_wp2_with fail
                go_region_held3 (fun w' => w'.cell? ⟨wo.heap.size + 1, t, none⟩ = some (.int .u32 (2 * ctt))) (first | assumption | (simpa using hcL)) (first | (go_at_call 11; (try rw [hn84]); (try rw [if_neg hcne4]); refine hcall2.mono ?_; rintro e we ⟨⟨u2, rfl⟩, hcL2, HBE⟩))
                clear hcall2 hcL hcL2 HBD
                go_wp2_with fail
                go_roundw
                case rel =>
                  obtain ⟨hctE, htE⟩ := HCE.out
                  obtain ⟨hPL, hL0⟩ := HPL.out
                  refine ⟨t + 1, g1, cap1, _, (fun u => if u = t then (tp : Int) else P u), (fun u => if u = t then 2 * (ctt : Int) else Ln u), by omega, by go_num, by rw [HSU.out], by rw [HSU.out]; exact HBE.out, ?_, fun u hu => ?_, fun u hu => ?_⟩
                  · have := HTL.out
                    rw [Nat.mul_comm 8 t] at this
                    exact this
                  · by_cases e : u = t
                    · subst e
                      refine ⟨?_, fun _ => ?_⟩
                      · show (if u = u then 2 * (ctt : Int) else Ln u) = _
                        rw [if_pos rfl, hctE]
                      · show (if u = u then (tp : Int) else P u) = _
                        rw [if_pos rfl, htE]
                    · obtain ⟨p1, p2⟩ := hPL u (by omega)
                      refine ⟨?_, fun h => ?_⟩
                      · show (if u = t then 2 * (ctt : Int) else Ln u) = _
                        rw [if_neg e]; exact p1
                      · show (if u = t then (tp : Int) else P u) = _
                        rw [if_neg e]; exact p2 h
                  · show (if u = t then 2 * (ctt : Int) else Ln u) = 0
                    rw [if_neg (by omega)]; exact hL0 u (by omega)
                case measure => simp [intOf]; omega
          · as_aux_lemma =>
              have h256 : t = 256 := by omega
              have h256I : (t : Int) = 256 := by omega
              rw [h256I]
              clear h256I
              subst h256
              have h3 := h2.three
              have htle := HLE.out.2 256 (Nat.le_refl _)
              have HPL := hide hPL
              obtain ⟨N, hN⟩ : ∃ N, N = tposT (posT Ks Vs k) (cntT H k) 256 := ⟨_, rfl⟩
              rw [← hN] at hb htle ⊢
              have HNE := hide hN
              have HB := hide (And.intro hb h3)
              have HHH := hide hH
              clear hb h2 hPL hL0 htl h3 hN ht hH
              go_wp2_with fail
              go_loopw [15] (fun iv w3 => ∃ (i : Nat) (B : Nat → Int) (S : Nat → Nat → Option Nat), i ≤ k ∧ iv = .int .i64 i ∧ BldT w w3 w.heap.size k wo.heap.size g cap N B F G (fun u => (cntT H k u : Int)) P Ln ∧ ThreeOK B k Ks Vs H i S) (fun iv _ => k - (intOf iv).toNat)
              case atStart =>
                obtain ⟨hb, h3⟩ := HB.out
                exact ⟨0, B, _, Nat.zero_le _, rfl, hb, h3⟩
              case round =>
                clear HB B
                obtain ⟨i, B, S, hi, rfl, hb, h3⟩ := hrel
                by_cases hil : i < k
                · as_aux_lemma =>
                    obtain ⟨hF, hG⟩ := HFG.out
                    have hGi := hG i hil
                    have hFi := hF i hil
                    have hlt32 : H i < 4294967296 := by rw [HHH.out i]; exact hashN_lt _
                    have hpi : posT Ks Vs i < 4294967296 := by have := posT_mono Ks Vs hil; omega
                    have hpi2 := posT_ge Ks Vs i
                    obtain ⟨t, ht⟩ : ∃ t, t = H i % 256 := ⟨_, rfl⟩
                    have ht256 : t < 256 := by omega
                    have htI : ((H i : Int) % 256) = (t : Int) := by omega
                    have hcp : cntT H i t + 1 ≤ cntT H k t := by rw [ht]; exact cntT_lt H hil
                    have hcle := HLE.out.1 t
                    obtain ⟨hLt, hPt⟩ := HPL.out t ht256
                    replace hPt := hPt (by omega)
                    have hmono := tposT_mono (posT Ks Vs k) (cntT H k) (show t < 256 by omega)
                    rw [← HNE.out] at hmono
                    obtain ⟨L, hL⟩ : ∃ L, L = 2 * cntT H k t := ⟨_, rfl⟩
                    obtain ⟨tp, htp⟩ : ∃ tp, tp = tposT (posT Ks Vs k) (cntT H k) t := ⟨_, rfl⟩
                    obtain ⟨home, hhome⟩ : ∃ home, home = H i / 256 % L := ⟨_, rfl⟩
                    have hLp : 0 < L := by omega
                    have hL4 : L ≤ 1024 := by omega
                    have hLne : L ≠ 0 := by omega
                    have htpN : tp + 8 * L ≤ N := by omega
                    have hhl : home < L := by rw [hhome]; exact Nat.mod_lt _ hLp
                    have hhI : ((H i : Int) / 256 % (L : Int)) = (home : Int) := by rw [hhome]; simp
                    have hLI : Ln t = (L : Int) := by rw [hLt, hL]; simp
                    have hPI : P t = (tp : Int) := by rw [hPt, htp]
                    have hcells : ∀ w' : World, BldT w w' w.heap.size k wo.heap.size g cap N B F G (fun u => (cntT H k u : Int)) P Ln → w'.cell? ⟨wo.heap.size, t, none⟩ = some (.int .u32 tp) ∧ w'.cell? ⟨wo.heap.size + 1, t, none⟩ = some (.int .u32 L) ∧ w'.cell? ⟨w.heap.size + 2, i, none⟩ = some (.int .u32 (H i)) ∧ w'.cell? ⟨w.heap.size + 1, i, none⟩ = some (.int .u32 (posT Ks Vs i)) := fun w' h => by
                      have a := h.ps.at_ t ht256
                      have b := h.ln.at_ t ht256
                      have c := h.b.hs.at_ i hil
                      have d := h.b.rp.at_ i hil
                      rw [hPI] at a
                      rw [hLI] at b
                      rw [hGi] at c
                      rw [hFi] at d
                      exact ⟨a, b, c, d⟩
                    obtain ⟨dstop, hds, hnone, hbef⟩ : ∃ d, d < L ∧ S t ((home + d) % L) = none ∧ ∀ d', d' < d → S t ((home + d') % L) ≠ none := by
                      obtain ⟨s, hs, he⟩ := h3.tabs.empty ht256 (show cntT H i t ≤ cntT H k t by omega) (by omega)
                      rw [← hL] at hs
                      obtain ⟨d0, hd0, hr⟩ := reach (L := L) (home := home) hhl hs
                      obtain ⟨d, hdle, hp, hmin⟩ := least (p := fun d => S t ((home + d) % L) = none) (m := d0) (by rw [hr]; exact he)
                      exact ⟨d, by omega, hp, fun d' hd' => hmin d' hd'⟩
                    have hle : (∀ d, d < dstop → ∃ x : Nat, x ≠ 0 ∧ le32 B (tp + (home + d) % L * 8 + 4) = x) ∧ le32 B (tp + (home + dstop) % L * 8 + 4) = 0 := by
                      refine ⟨fun d hd => ?_, ?_⟩
                      · cases hsd : S t ((home + d) % L) with
                        | none => exact absurd hsd (hbef d hd)
                        | some j =>
                          have hj := h3.tabs.some_ t ht256 _ (by rw [← hL]; exact Nat.mod_lt _ hLp) j hsd
                          refine ⟨posT Ks Vs j, by have := posT_ge Ks Vs j; omega, ?_⟩
                          rw [Nat.mul_comm _ 8, htp]
                          exact hj.2.2.2
                      · have hj := h3.tabs.none_ t ht256 _ (by rw [← hL]; exact Nat.mod_lt _ hLp) hnone
                        rw [Nat.mul_comm _ 8, htp]
                        exact hj
                    have HLE2 := hide hle
                    have HC := hide hcells
                    have HI := hide (And.intro h3 (And.intro hnone (And.intro hbef (And.intro ht (And.intro hL (And.intro htp hhome))))))
                    obtain ⟨cP, cL, cH, cF⟩ := hcells _ hb
                    have HB := hide hb
                    have HGF := hide (And.intro hGi hFi)
                    obtain ⟨hk', HK'⟩ : ∃ hk', Hid (hk' = H i) := ⟨_, rfl⟩
                    obtain ⟨pi, HPI⟩ : ∃ pi, Hid (pi = posT Ks Vs i) := ⟨_, rfl⟩
                    rw [← HK'.out] at hlt32 cH htI hhI HC
                    rw [← HPI.out] at hpi hpi2 cF HC
                    clear hb h3 hnone hbef hle hcells ht hL htp hhome hGi hFi hF hG hLt hPt hLI hPI hcp hmono hcle
                    go_wp2_with fail
                    go_quiet (fail)
                    go_wp2_with fail
                    rw [hhI, htI]
                    go_loopw [17, 18] (fun sv pv w4 => ∃ (d sl : Nat), d ≤ dstop ∧ sl = (home + d) % L ∧ sv = .int .u32 sl ∧ pv = .int .u32 d ∧ BldT w w4 w.heap.size k wo.heap.size g cap N B F G (fun u => (cntT H k u : Int)) P Ln) (fun _ pv _ => dstop - (intOf pv).toNat)
                    case atStart =>
                      exact ⟨0, home, Nat.zero_le _, by rw [Nat.add_zero, Nat.mod_eq_of_lt hhl], rfl, rfl, HB.out.later (below_drewN _ (Below.refl _ _))⟩
                    case round =>
                      clear cP cL cH cF HB
                      obtain ⟨d, sl, hd, hsle, rfl, rfl, hb⟩ := hrel
                      have hsl : sl < L := by rw [hsle]; exact Nat.mod_lt _ hLp
                      obtain ⟨cP, cL, cH, cF⟩ := HC.out _ hb
                      have hrowd := hb.drew.b.row
                      have hcapl := hb.b.row.le
                      have hdL : d < L := by omega
                      have hoff : tp + sl * 8 + 8 ≤ N := by omega
                      obtain ⟨at_, HAT⟩ : ∃ at_, Hid (at_ = tp + sl * 8) := ⟨_, rfl⟩
                      have hatN : at_ + 8 ≤ N := by have := HAT.out; omega
                      have hcall1 := uint32_any g (at_ + 4) (N - (at_ + 4)) (cap - (at_ + 4)) B (at_ + 4) wr.drew (by omega) hb.b.byt (fun j hj => hrowd.at_ _ (by omega))
                      have HB := hide hb
                      have HD := hide hsle
                      have haI : ((tp : Int) + (sl : Int) * 8) = (at_ : Int) := by have := HAT.out; omega
                      have hw1 : IntKind.i64.wrap ((at_ : Int) + 4) = (at_ : Int) + 4 := by rw [IntKind.wrap_i64]; omega
                      have hs1 : (0 : Int) ≤ (at_ : Int) + 4 := by omega
                      have hs2 : (at_ : Int) + 4 ≤ (N : Int) := by omega
                      have hs3 : (at_ : Int) ≤ (N : Int) := by omega
                      have hn1 : ((at_ : Int) + 4).toNat = at_ + 4 := by omega
                      have hcne : ¬ cap = at_ := by omega
                      have hcne4 : ¬ cap = at_ + 4 := by omega
                      clear hb hrowd hsle
                      by_cases hds2 : d < dstop
                      · as_aux_lemma =>
                          obtain ⟨x, hx0, hx⟩ := HLE2.out.1 d hds2
                          rw [← HD.out, ← HAT.out] at hx
                          rw [hx] at hcall1
                          have hxI : ((x : Int) == 0) = false := by simp; omega
                          have HD2 := hide hds2
                          clear hds2
                          by_cases hwr : sl + 1 = L
                          · have hwrI : (((sl : Int) + 1) == (L : Int)) = true := by simp; omega
                            go_wp2_with fail
                            go_region_held3 (fun _ => True) (trivial) (first | (go_at_call 12; (try rw [hn1]); (try rw [if_neg hcne4]); refine hcall1.mono ?_; rintro e w5 ⟨rfl, hb5⟩))
                            clear hcall1 cP cL cH cF
                            have HB5 := hide (HB.out.drew.later hb5)
                            obtain ⟨cP, cL, cH, cF⟩ := HC.out _ HB5.out
                            clear hb5
                            go_wp2_with fail
                            go_roundw
                            case rel =>
                              refine ⟨d + 1, 0, by have := HD2.out; omega, ?_, rfl, by go_num, HB5.out⟩
                              have := slot_next hsl home d HD.out
                              rw [if_pos hwr] at this
                              exact this
                            case measure => have := HD2.out; simp [intOf]; omega
                          · have hwrI : (((sl : Int) + 1) == (L : Int)) = false := by simp; omega
                            go_wp2_with fail
                            go_region_held3 (fun _ => True) (trivial) (first | (go_at_call 12; (try rw [hn1]); (try rw [if_neg hcne4]); refine hcall1.mono ?_; rintro e w5 ⟨rfl, hb5⟩))
                            clear hcall1 cP cL cH cF
                            have HB5 := hide (HB.out.drew.later hb5)
                            obtain ⟨cP, cL, cH, cF⟩ := HC.out _ HB5.out
                            clear hb5
                            go_wp2_with fail
                            go_roundw
                            case rel =>
                              refine ⟨d + 1, sl + 1, by have := HD2.out; omega, ?_, by go_num, by go_num, HB5.out⟩
                              have := slot_next hsl home d HD.out
                              rw [if_neg hwr] at this
                              exact this
                            case measure => have := HD2.out; simp [intOf]; omega
                      · as_aux_lemma =>
                          have hdd : d = dstop := by omega
                          subst hdd
                          have hx := HLE2.out.2
                          rw [← HD.out, ← HAT.out] at hx
                          rw [hx] at hcall1
                          clear hds2 hd hx
                          go_wp2_with fail
                          go_region_held3 (fun _ => True) (trivial) (first | (go_at_call 12; (try rw [hn1]); (try rw [if_neg hcne4]); refine hcall1.mono ?_; rintro e w5 ⟨rfl, hb5⟩))
                          clear hcall1 cP cL cH cF
                          have HB5 := hide (HB.out.drew.later hb5)
                          obtain ⟨cP, cL, cH, cF⟩ := HC.out _ HB5.out
                          clear hb5 cP cL cF
                          have hcall2 : Calls Ybaf.prog 11 #[.agg #[], .slice (some ⟨g, at_, none⟩) (N - at_) (cap - at_), .int .u32 hk'] w5.drew fun e w6 => (∃ u, e = .returned u) ∧ w6.cell? ⟨w.heap.size + 2, i, none⟩ = some (.int .u32 hk') ∧ w6.cell? ⟨w.heap.size + 1, i, none⟩ = some (.int .u32 pi) ∧
                              Hid (BldT w w6 w.heap.size k wo.heap.size g cap N (put4 B at_ hk') F G (fun u => (cntT H k u : Int)) P Ln) := by
                            refine (put32_any g at_ cap N (N - at_) (cap - at_) _ hk' w5.drew HB5.out.drew.b.row (by omega) (by omega) (by omega) (by omega)).mono ?_
                            rintro e w6 ⟨hu, hR, hh⟩
                            have hb6 := HB5.out.drew.step hh hR (put4_byt HB5.out.b.byt _ _) (.inl rfl)
                            have c := hb6.b.hs.at_ i hil
                            have d := hb6.b.rp.at_ i hil
                            rw [HGF.out.1, ← HK'.out] at c
                            rw [HGF.out.2, ← HPI.out] at d
                            exact ⟨hu, c, d, hb6⟩
                          go_wp2_with fail
                          go_region_held3 (fun w' => w'.cell? ⟨w.heap.size + 2, i, none⟩ = some (.int .u32 hk')) (first | assumption | (simpa using cH)) (first | (go_at_call 11; (try rw [if_neg hcne]); refine hcall2.mono ?_; rintro e w6 ⟨⟨u, rfl⟩, hcH, hcF, HB6⟩))
                          clear hcall2 hcH cH
                          have hcall3 : Calls Ybaf.prog 11 #[.agg #[], .slice (some ⟨g, at_ + 4, none⟩) (N - (at_ + 4)) (cap - (at_ + 4)), .int .u32 pi] w6.drew fun e w7 => (∃ u, e = .returned u) ∧ w7.cell? ⟨w.heap.size + 1, i, none⟩ = some (.int .u32 pi) ∧
                              Hid (BldT w w7 w.heap.size k wo.heap.size g cap N (put4 (put4 B at_ hk') (at_ + 4) pi) F G (fun u => (cntT H k u : Int)) P Ln) := by
                            refine (put32_any g (at_ + 4) cap N (N - (at_ + 4)) (cap - (at_ + 4)) _ pi w6.drew HB6.out.drew.b.row (by omega) (by omega) (by omega) (by omega)).mono ?_
                            rintro e w7 ⟨hu, hR, hh⟩
                            have hb7 := HB6.out.drew.step hh hR (put4_byt HB6.out.b.byt _ _) (.inl rfl)
                            have d := hb7.b.rp.at_ i hil
                            rw [HGF.out.2, ← HPI.out] at d
                            exact ⟨hu, d, hb7⟩
                          go_wp2_with fail
                          go_region_held3 (fun w' => w'.cell? ⟨w.heap.size + 1, i, none⟩ = some (.int .u32 pi)) (first | assumption | (simpa using hcF)) (first | (go_at_call 11; (try rw [hn1]); (try rw [if_neg hcne4]); refine hcall3.mono ?_; rintro e w7 ⟨⟨u2, rfl⟩, hcF2, HB7⟩))
                          clear hcall3 hcF hcF2 HB6 HB5
                          go_wp2_with fail
                          go_roundw
                          case rel =>
                            obtain ⟨h3, hnone, hbef, ht, hL, htp, hhome⟩ := HI.out
                            have hsle := HD.out
                            have hat := HAT.out
                            have hk1 := HK'.out
                            have hp1 := HPI.out
                            subst hk1 hp1
                            subst ht
                            subst hL
                            subst hhome
                            subst htp
                            subst hat
                            obtain ⟨S', h4⟩ := h3.insert d sl hds hsle (by rw [hsle]; exact hnone) hbef hlt32 hpi
                            exact ⟨i + 1, _, S', by omega, by go_num, HB7.out, h4⟩
                          case measure => simp [intOf]; omega
                · as_aux_lemma =>
                    have hik : i = k := by omega
                    subst hik
                    have HB := hide (And.intro hb h3)
                    clear hb h3 hil
                    go_wp2_with fail
                    refine bodyPost_ret (v := .slice (some ⟨g, 0, none⟩) N cap) ?_ rfl ?_
                    · simp [results, Ybaf.f6, go_sem]
                    · obtain ⟨hb, h3⟩ := HB.out
                      exact ⟨g, cap, N, B, S, rfl, hb.b.row, hb.b.bel, by have := hb.b.gd; omega, hb.b.byt, h3, HNE.out, by omega⟩
end Go.Proofs.YbulkclmFmt
