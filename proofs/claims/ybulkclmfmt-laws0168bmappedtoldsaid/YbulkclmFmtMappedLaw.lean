import Derived.Test.YbulkclmFmtReader
import Derived.Test.YbulkclmFmtAppendMapped
namespace Go.Proofs.YbulkclmFmt
open Go.ChangeShapes Go.WideShapes Go.ChangeAt Go.RowKit
set_option linter.unusedVariables false

theorem DBAt.setData {w : World} {D R g N cap : Nat} {tp tl : Nat → Int} {data : Value} (h : DBAt w D R g N cap tp tl data) (hR : R ≠ D) (v : Value) : DBAt (w.setCell ⟨D, 515, none⟩ v) D R g N cap tp tl v := by
  have other : ∀ j, j ≠ 515 → (w.setCell ⟨D, 515, none⟩ v).cell? ⟨D, j, none⟩ = w.cell? ⟨D, j, none⟩ := fun j hj => World.cell?_setCell_other _ _ _ _ (by simp <;> omega)
  have hh := Hole.setCell D w.heap.size 515 w v
  have hRl : R < w.heap.size := World.block_lt_of_cell? w _ h.r0
  exact ⟨by rw [other _ (by omega)]; exact h.c0, by rw [other _ (by omega)]; exact h.c1, fun t ht => ⟨by rw [other _ (by omega)]; exact (h.tb t ht).1, by rw [other _ (by omega)]; exact (h.tb t ht).2⟩, World.cell?_setCell_same _ _ _ h.cd, by rw [other _ (by omega)]; exact h.cc, by rw [hh.cell (p := ⟨R, 0, none⟩) hRl hR]; exact h.r0⟩

set_option maxRecDepth 100000 in
set_option maxHeartbeats 4000000 in
theorem mapped_out (a0 a1 a2 a3 : Option Addr) (l0 c0 l1 c1 l2 c2 l3 c3 : Nat) (w : World) (h : 512 < l0 ∨ 512 < l1 ∨ 512 < l2 ∨ 4096 < l3) :
    Calls Ybaf.prog 4 #[.slice a0 l0 c0, .slice a1 l1 c1, .slice a2 l2 c2, .slice a3 l3 c3] w fun e w' => e = .returned (.bool true) ∧ Below w.heap.size w w' := by
  have hcall := bounded_out a0 a1 a2 a3 l0 c0 l1 c1 l2 c2 l3 c3 w h
  go_enter Ybaf.func4, Ybaf.ntmps4
  go_wp2_with fail
  refine hcall.mono ?_
  rintro e w1 ⟨rfl, rfl⟩
  clear hcall
  go_wp2_with fail
  go_ret
  exact ⟨rfl, Below.refl _ _⟩

set_option maxRecDepth 100000 in
set_option maxHeartbeats 4000000 in
theorem mapped_law (a0 a1 a2 a3 : Option Addr) (l0 c0 l1 c1 l2 c2 l3 c3 : Nat) (Ks Vs Qs : Nat → ByteArray) (dB : Nat → Int) (it : Nat) (E : Value) (w : World) (hK : StrRow w a0 l0 Ks) (hV : StrRow w a1 l1 Vs) (hQ : StrRow w a2 l2 Qs) (hd : Sl w a3 l3 dB) (hdB : Byt dB) (b0 : l0 ≤ 512) (b1 : l1 ≤ 512) (b2 : l2 ≤ 512) (b3 : l3 ≤ 4096) (hdc : l3 ≤ c3)
    (hg1 : w.cell? ⟨1, 0, none⟩ = some (.iface it E)) (hg3 : w.cell? ⟨3, 0, none⟩ = some (.int .u32 33)) (hT : Tab4 w) (hcmp : ∀ w : World, (binOp .neq 28 (.iface it E) (.iface it E)).run Ybaf.prog w = .ok (.bool false) w) :
    Calls Ybaf.prog 4 #[.slice a0 l0 c0, .slice a1 l1 c1, .slice a2 l2 c2, .slice a3 l3 c3] w fun e w' => e = .returned (.bool true) ∧ Below w.heap.size w w' := by
  have hcall := bounded_in a0 a1 a2 a3 l0 c0 l1 c1 l2 c2 l3 c3 Ks Vs Qs w hK hV hQ b0 b1 b2 b3
  have HS := hide (And.intro hK (And.intro hV (And.intro hQ (And.intro hd (And.intro hg1 hg3)))))
  have HTB := hide hT
  clear hK hV hQ hd hg1 hg3 hT
  go_enter Ybaf.func4, Ybaf.ntmps4
  go_wp2_with fail
  refine hcall.mono ?_
  rintro e w1 ⟨r, rfl, rfl, hr⟩
  clear hcall
  cases r with
  | false =>
    clear hr
    go_wp2_with fail
    go_ret
    exact ⟨rfl, Below.refl _ _⟩
  | true =>
    obtain ⟨hsum, sK, sV, sQ⟩ := hr rfl
    obtain ⟨hK, hV, hQ, hd, hg1, hg3⟩ := HS.out
    obtain ⟨n, hn⟩ : ∃ n, n = (if l1 < l0 then l1 else l0) := ⟨_, rfl⟩
    have hn0 : n ≤ l0 := by rw [hn]; split <;> omega
    have hn1 : n ≤ l1 := by rw [hn]; split <;> omega
    have hpos : posT Ks Vs n ≤ 4000000 := by
      have h1 := sumTo_mono Ks hn0
      have h2 := sumTo_mono Vs hn1
      have h3 := posT_sum Ks Vs n
      omega
    have hcallF := file_any a0 a1 l0 c0 l1 c1 n Ks Vs w1 (by omega) (hK.take hn0) (hV.take hn1) hn0 hn1 hpos hg3
    have HSm := hide (And.intro sK (And.intro sV sQ))
    clear hr hsum sK sV sQ hK hV hQ hd hg1 hg3 hpos
    have hrest : ∀ (w2 : World) (g cap N : Nat) (B : Nat → Int) (S : Nat → Nat → Option Nat), Row w2 g cap N B → Below w1.heap.size w1 w2 → w1.heap.size ≤ g → FileOK B N n Ks Vs (fun i => hashN (Ks i)) S → Hid (
        Calls Ybaf.prog 7 #[.iface 31 (.pointer (some ⟨w2.heap.size, 0, none⟩)), .int .i64 N] (w2.alloc (.cells #[.slice (some ⟨g, 0, none⟩) N cap] 33)) fun e w3 => ∃ D, e = .returned (.tuple #[.pointer (some ⟨D, 0, none⟩), .nilIface]) ∧ w3.cell? ⟨D, 515, none⟩ = some (.slice none 0 0) ∧ w3.frozen? ⟨D, 515, none⟩ = false ∧
          Calls Ybaf.prog 8 #[.pointer (some ⟨D, 0, none⟩), .slice a0 l0 c0, .slice a1 l1 c1, .slice a2 l2 c2, .slice a3 l3 c3, .int .i64 n] (w3.setCell ⟨D, 515, none⟩ (.slice (some ⟨g, 0, none⟩) N cap)) fun e w' => e = .returned (.bool true) ∧ Below w1.heap.size w1 w') := by
      intro w2 g cap N B S hrow hb2 hg fok
      have hbA : Below w2.heap.size w2 (w2.alloc (.cells #[.slice (some ⟨g, 0, none⟩) N cap] 33)) := (Below.refl _ _).alloc (Nat.le_refl _) _
      have hblk := heap_alloc_new w2 (.cells #[.slice (some ⟨g, 0, none⟩) N cap] 33)
      have hrc : (w2.alloc (.cells #[.slice (some ⟨g, 0, none⟩) N cap] 33)).cell? ⟨w2.heap.size, 0, none⟩ = some (.slice (some ⟨g, 0, none⟩) N cap) := by rw [Joins.cell_of_block hblk]; rfl
      have hN : 2048 ≤ N := by
        have h1 := posT_ge Ks Vs n
        have h2 := tposT_ge (posT Ks Vs n) (cntT (fun i => hashN (Ks i)) n) 256
        have h3 := fok.size
        omega
      refine (newReader_any w2.heap.size g N cap B _ hrc (hrow.later hbA) fok.byt hN fok.small).mono ?_
      rintro e w3 ⟨D, rfl, hb3, hDge, hDf, hDB⟩
      refine ⟨D, rfl, hDB.cd, hDf 515, ?_⟩
      have hDlt : D < w3.heap.size := World.block_lt_of_cell? w3 _ hDB.cd
      have hD1 : w1.heap.size ≤ D := by have := hb2.size; simp at hDge; omega
      have hb13' : Below w1.heap.size w1 w3 := (hb2.trans (hbA.mono hb2.size)).trans (hb3.mono (by have := hb2.size; simp; omega))
      have hrow3' : Row w3 g cap N B := (hrow.later hbA).later hb3
      have hgD : g ≠ D := by have := hrow.room.lt; simp at hDge; omega
      have hRD : w2.heap.size ≠ D := by simp at hDge; omega
      have hh := Hole.setCell D w3.heap.size 515 w3 (.slice (some ⟨g, 0, none⟩) N cap)
      have hrow3 : Row (w3.setCell ⟨D, 515, none⟩ (.slice (some ⟨g, 0, none⟩) N cap)) g cap N B := hrow3'.hole hh hrow3'.room.lt hgD
      have hDBs := hDB.setData hRD (.slice (some ⟨g, 0, none⟩) N cap)
      have hb13 : Below w1.heap.size w1 (w3.setCell ⟨D, 515, none⟩ (.slice (some ⟨g, 0, none⟩) N cap)) := hb13'.setCell (p := ⟨D, 515, none⟩) hD1 _
      clear hDB hrow3' hb13'
      generalize w3.setCell ⟨D, 515, none⟩ (.slice (some ⟨g, 0, none⟩) N cap) = w3s at *
      obtain ⟨hK, hV, hQ, hd, hg1, hg3⟩ := HS.out
      obtain ⟨sK, sV, sQ⟩ := HSm.out
      have hg13 := (hb13.cell (p := ⟨1, 0, none⟩) (World.block_lt_of_cell? w1 _ hg1)).trans hg1
      have hg33 := (hb13.cell (p := ⟨3, 0, none⟩) (World.block_lt_of_cell? w1 _ hg3)).trans hg3
      have hDB' : DBAt w3s D w2.heap.size g N cap (fun t => ((if cntT (fun i => hashN (Ks i)) n t = 0 then 0 else tposT (posT Ks Vs n) (cntT (fun i => hashN (Ks i)) n) t : Nat) : Int)) (fun t => ((2 * cntT (fun i => hashN (Ks i)) n t : Nat) : Int)) (.slice (some ⟨g, 0, none⟩) N cap) := by
        refine hDBs.congr (fun t ht => ?_) (fun t ht => ?_)
        · rw [Nat.mul_comm t 8, (fok.hdr t ht).1]
          split <;> rfl
        · rw [Nat.mul_comm t 8, (fok.hdr t ht).2]; rfl
      have hav : AVal w3s D l3 n Ks Vs it E := fun w4 key ka kc bk BK hb4 hbk hsl hks hkc hrw =>
        appendValue_mapped D w2.heap.size g N cap n B Ks Vs _ S it E ka kc key w4 fok
          ⟨hDB'.later hb4, hrow3.later hb4, hsl, (hb4.cell (p := ⟨1, 0, none⟩) (World.block_lt_of_cell? w3s _ hg13)).trans hg13, (hb4.cell (p := ⟨3, 0, none⟩) (World.block_lt_of_cell? w3s _ hg33)).trans hg33⟩ ((HTB.out.later hb13).later hb4) hks hkc bk l3 BK hrw b3 (fun i hi => sV i (by omega))
      refine (check_any a0 a1 a2 a3 l0 c0 l1 c1 l2 c2 l3 c3 n D Ks Vs Qs dB it E w3s ((hK.take hn0).below hb13) ((hV.take hn1).below hb13) (hQ.below hb13) (hd.later hb13) hdB hn0 hn1 (by omega) b2 b3 hdc (fun i hi => sK i (by omega)) (fun i hi => sV i (by omega)) (fun i hi => sQ i hi) hg13 hcmp hav).mono ?_
      rintro e w5 ⟨rfl, hb5⟩
      exact ⟨rfl, hb13.trans (hb5.mono hb13.size)⟩
    have HR := hide hrest
    have HN := hide hn
    clear hrest HS HSm
    by_cases hlt : l1 < l0
    · have hltI : (l1 : Int) < (l0 : Int) := by omega
      have hnl : n = l1 := by rw [hn, if_pos hlt]
      clear hn
      subst hnl
      go_wp2_with fail
      refine hcallF.mono ?_
      rintro e w2 ⟨g, cap, N, B, S, rfl, hrow, hb2, hg, fok⟩
      have h7 := (HR.out w2 g cap N B S hrow hb2 hg fok).out
      clear hcallF hrow hb2 hg HR
      have hsm := fok.small
      clear fok
      go_wp2_with fail
      refine h7.mono ?_
      rintro e w3 ⟨D, rfl, hcd, hcf, h8⟩
      clear h7
      go_wp2_with fail
      refine h8.mono ?_
      rintro e w4 ⟨rfl, hb4⟩
      have HB := hide hb4
      clear h8 hb4
      go_wp2_with fail
      go_ret
      exact ⟨rfl, HB.out⟩
    · have hltI : decide ((l1 : Int) < (l0 : Int)) = false := by simp; omega
      have hnl : n = l0 := by rw [hn, if_neg hlt]
      clear hn
      subst hnl
      go_wp2_with fail
      refine hcallF.mono ?_
      rintro e w2 ⟨g, cap, N, B, S, rfl, hrow, hb2, hg, fok⟩
      have h7 := (HR.out w2 g cap N B S hrow hb2 hg fok).out
      clear hcallF hrow hb2 hg HR
      have hsm := fok.small
      clear fok
      go_wp2_with fail
      refine h7.mono ?_
      rintro e w3 ⟨D, rfl, hcd, hcf, h8⟩
      clear h7
      go_wp2_with fail
      refine h8.mono ?_
      rintro e w4 ⟨rfl, hb4⟩
      have HB := hide hb4
      clear h8 hb4
      go_wp2_with fail
      go_ret
      exact ⟨rfl, HB.out⟩
end Go.Proofs.YbulkclmFmt
