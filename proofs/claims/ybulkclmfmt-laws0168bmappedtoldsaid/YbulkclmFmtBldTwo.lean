import Derived.Test.YbulkclmFmtZeros
namespace Go.Proofs.YbulkclmFmt
open Go.ChangeShapes Go.WideShapes Go.ChangeAt Go.RowKit
set_option linter.unusedVariables false

theorem Bld.hole {w0 w w' : World} {s n g cap m k : Nat} {B : Nat → Int} {F G C : Nat → Int} (h : Bld w0 w s n g cap m B F G C) (hh : Hole k w.heap.size w w') (hk : s + 4 ≤ k) (hg : k ≠ g) : Bld w0 w' s n g cap m B F G C := by
  have hs := h.sz
  exact ⟨h.row.hole hh h.row.room.lt (fun e => hg e.symm), h.byt, h.rp.hole hh (by omega) (by omega), h.hs.hole hh (by omega) (by omega), h.ct.hole hh (by omega) (by omega), h.bel.trans (hh.below (by omega) (by omega)), h.gd, Nat.le_trans h.sz hh.size, h.sle⟩

/-- The file while its tables are laid. -/
structure BldT (w0 w : World) (s n pb g cap m : Nat) (B : Nat → Int) (F G C P Ln : Nat → Int) : Prop where
  b : Bld w0 w s n g cap m B F G C
  ps : URow w pb 256 P
  ln : URow w (pb + 1) 256 Ln
  gp : g ≠ pb ∧ g ≠ pb + 1
  pbs : s + 4 ≤ pb
  sz2 : pb + 2 ≤ w.heap.size

theorem BldT.step {w0 w w' : World} {s n pb g cap m g' cap' m' : Nat} {B B' : Nat → Int} {F G C P Ln : Nat → Int} (h : BldT w0 w s n pb g cap m B F G C P Ln) (hh : Hole g w.heap.size w w') (hr : Row w' g' cap' m' B') (hb : Byt B') (hg : g' = g ∨ w.heap.size ≤ g') : BldT w0 w' s n pb g' cap' m' B' F G C P Ln := by
  have h2 := h.sz2
  have h3 := h.gp
  refine ⟨h.b.step hh hr hb hg, h.ps.hole hh (by omega) (by omega), h.ln.hole hh (by omega) (by omega), ?_, h.pbs, Nat.le_trans h.sz2 hh.size⟩
  rcases hg with rfl | hg
  · exact h.gp
  · omega
theorem BldT.later {w0 w w' : World} {s n pb g cap m : Nat} {B : Nat → Int} {F G C P Ln : Nat → Int} (h : BldT w0 w s n pb g cap m B F G C P Ln) (hb : Below w.heap.size w w') : BldT w0 w' s n pb g cap m B F G C P Ln :=
  ⟨h.b.later hb, h.ps.later hb, h.ln.later hb, h.gp, h.pbs, Nat.le_trans h.sz2 hb.size⟩
theorem BldT.drew {w0 w : World} {s n pb g cap m : Nat} {B : Nat → Int} {F G C P Ln : Nat → Int} (h : BldT w0 w s n pb g cap m B F G C P Ln) : BldT w0 w.drew s n pb g cap m B F G C P Ln := h.later (Below.refl _ _).drew
theorem BldT.setP {w0 w : World} {s n pb g cap m : Nat} {B : Nat → Int} {F G C P Ln : Nat → Int} (h : BldT w0 w s n pb g cap m B F G C P Ln) (j : Nat) (hj : j < 256) (x : Int) : BldT w0 (w.setCell ⟨pb, j, none⟩ (.int .u32 x)) s n pb g cap m B F G C (fun k => if k = j then x else P k) Ln := by
  have h2 := h.sz2
  have h3 := h.gp
  have hh := Hole.setCell pb w.heap.size j w (.int .u32 x)
  exact ⟨h.b.hole hh h.pbs (by omega), h.ps.setCell j hj x, h.ln.hole hh (by omega) (by omega), h.gp, h.pbs, Nat.le_trans h.sz2 hh.size⟩
theorem BldT.setL {w0 w : World} {s n pb g cap m : Nat} {B : Nat → Int} {F G C P Ln : Nat → Int} (h : BldT w0 w s n pb g cap m B F G C P Ln) (j : Nat) (hj : j < 256) (x : Int) : BldT w0 (w.setCell ⟨pb + 1, j, none⟩ (.int .u32 x)) s n pb g cap m B F G C P (fun k => if k = j then x else Ln k) := by
  have h2 := h.sz2
  have h3 := h.gp
  have h4 := h.pbs
  have hh := Hole.setCell (pb + 1) w.heap.size j w (.int .u32 x)
  exact ⟨h.b.hole hh (by omega) (by omega), h.ps.hole hh (by omega) (by omega), h.ln.setCell j hj x, h.gp, h.pbs, Nat.le_trans h.sz2 hh.size⟩

theorem bldT_start {w0 w : World} {s n g cap m : Nat} {B : Nat → Int} {F G C : Nat → Int} (h : Bld w0 w s n g cap m B F G C) : BldT w0 ((w.alloc (.cells Z50 50)).alloc (.cells Z50 50)) s n w.heap.size g cap m B F G C (fun _ => 0) (fun _ => 0) := by
  have h1 := heap_alloc_new w (.cells Z50 50)
  have h2 := heap_alloc_new (w.alloc (.cells Z50 50)) (.cells Z50 50)
  rw [World.size_alloc] at h2
  have bl : ∀ (w' : World) (o : Obj), Below w'.heap.size w' (w'.alloc o) := fun w' o => (Below.refl _ _).alloc (Nat.le_refl _) _
  have hl := h.row.room.lt
  exact ⟨(h.later (bl _ _)).later (bl _ _), (URow.of_block h1 (fun j hj => Z50_get hj)).later (bl _ _), URow.of_block h2 (fun j hj => Z50_get hj), ⟨by omega, by omega⟩, h.sz, by simp⟩

/-- What the file holds when the first t tables are laid. -/
structure TwoOK (B : Nat → Int) (n : Nat) (Ks Vs : Nat → ByteArray) (C : Nat → Nat) (t : Nat) : Prop where
  recs : ∀ i, i < n → RecOK B (posT Ks Vs n) (posT Ks Vs i) (Ks i) (Vs i)
  hdr : ∀ u, u < t → le32 B (8 * u) = (if C u = 0 then 0 else (tposT (posT Ks Vs n) C u : Int)) ∧ le32 B (8 * u + 4) = 2 * C u
  hz : ∀ j, 8 * t ≤ j → j < 2048 → B j = 0
  tz : ∀ j, posT Ks Vs n ≤ j → j < tposT (posT Ks Vs n) C t → B j = 0

theorem le32_zero {B : Nat → Int} {p : Nat} (h : ∀ j, j < 4 → B (p + j) = 0) : le32 B p = 0 := by
  unfold le32
  have h0 := h 0 (by omega)
  have h1 := h 1 (by omega)
  have h2 := h 2 (by omega)
  have h3 := h 3 (by omega)
  rw [Nat.add_zero] at h0
  rw [h0, h1, h2, h3]; rfl

theorem TwoOK.skip {B : Nat → Int} {n : Nat} {Ks Vs : Nat → ByteArray} {C : Nat → Nat} {t : Nat} (h : TwoOK B n Ks Vs C t) (ht : t < 256) (hc : C t = 0) : TwoOK B n Ks Vs C (t + 1) := by
  refine ⟨h.recs, fun u hu => ?_, fun j h1 h2 => h.hz j (by omega) h2, fun j h1 h2 => h.tz j h1 ?_⟩
  · by_cases e : u = t
    · subst e
      rw [if_pos hc, hc]
      exact ⟨le32_zero (fun j hj => h.hz _ (by omega) (by omega)), le32_zero (fun j hj => h.hz _ (by omega) (by omega))⟩
    · exact h.hdr u (by omega)
  · have : tposT (posT Ks Vs n) C (t + 1) = tposT (posT Ks Vs n) C t + 16 * C t := rfl
    omega

theorem TwoOK.lay {B : Nat → Int} {n : Nat} {Ks Vs : Nat → ByteArray} {C : Nat → Nat} {t : Nat} (h : TwoOK B n Ks Vs C t) (ht : t < 256) (hc : C t ≠ 0) (hN : tposT (posT Ks Vs n) C t < 4294967296) (hC : C t < 1000000) :
    TwoOK (put4 (put4 (catB B (tposT (posT Ks Vs n) C t) (fun _ => 0)) (8 * t) (tposT (posT Ks Vs n) C t)) (8 * t + 4) (2 * C t)) n Ks Vs C (t + 1) := by
  have hp := posT_ge Ks Vs n
  have hg := tposT_ge (posT Ks Vs n) C t
  have hsucc : tposT (posT Ks Vs n) C (t + 1) = tposT (posT Ks Vs n) C t + 16 * C t := rfl
  have hfar : ∀ j, (j < 8 * t ∨ 8 * t + 8 ≤ j) → put4 (put4 (catB B (tposT (posT Ks Vs n) C t) (fun _ => 0)) (8 * t) (tposT (posT Ks Vs n) C t)) (8 * t + 4) (2 * C t) j = catB B (tposT (posT Ks Vs n) C t) (fun _ => 0) j := fun j hj => by
    rw [put4_other _ (by omega), put4_other _ (by omega)]
  have hold : ∀ j, j < tposT (posT Ks Vs n) C t → catB B (tposT (posT Ks Vs n) C t) (fun _ => 0) j = B j := fun j hj => by unfold catB; rw [if_pos hj]
  refine ⟨fun i hi => ?_, fun u hu => ?_, fun j h1 h2 => ?_, fun j h1 h2 => ?_⟩
  · have hr := h.recs i hi
    have := posT_ge Ks Vs i
    have hle := hr.le
    exact hr.congr (fun j h1 h2 => by rw [hfar j (by omega), hold j (by omega)]) hle
  · by_cases e : u = t
    · subst e
      rw [if_neg hc]
      refine ⟨?_, le32_put4 _ (by omega) (by omega)⟩
      rw [le32_put4_other _ (by omega)]
      exact le32_put4 _ (by omega) (by omega)
    · obtain ⟨a, b⟩ := h.hdr u (by omega)
      refine ⟨?_, ?_⟩
      · rw [← a, le32_put4_other _ (by omega), le32_put4_other _ (by omega)]
        exact le32_congr (fun j hj => hold _ (by omega))
      · rw [← b, le32_put4_other _ (by omega), le32_put4_other _ (by omega)]
        exact le32_congr (fun j hj => hold _ (by omega))
  · rw [hfar j (by omega), hold j (by omega)]
    exact h.hz j (by omega) h2
  · rw [hfar j (by omega)]
    unfold catB
    by_cases e : j < tposT (posT Ks Vs n) C t
    · rw [if_pos e]; exact h.tz j h1 e
    · rw [if_neg e]
end Go.Proofs.YbulkclmFmt
