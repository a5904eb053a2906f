import Derived.Test.YbulkclmFmtBldTwo
import Derived.Test.YbulkclmFmtHash
namespace Go.Proofs.YbulkclmFmt
set_option linter.unusedVariables false

/-- What the file holds when the first i records are in the tables. -/
structure ThreeOK (B : Nat → Int) (n : Nat) (Ks Vs : Nat → ByteArray) (H : Nat → Nat) (i : Nat) (S : Nat → Nat → Option Nat) : Prop where
  recs : ∀ i, i < n → RecOK B (posT Ks Vs n) (posT Ks Vs i) (Ks i) (Vs i)
  hdr : ∀ u, u < 256 → le32 B (8 * u) = (if cntT H n u = 0 then 0 else (tposT (posT Ks Vs n) (cntT H n) u : Int)) ∧ le32 B (8 * u + 4) = 2 * cntT H n u
  tabs : TabsOK B i H (posT Ks Vs) (cntT H n) (tposT (posT Ks Vs n) (cntT H n)) S

theorem occ_none (L : Nat) : occ (fun _ => none) L = 0 := by
  induction L with
  | zero => rfl
  | succ L ih => rw [occ_succ, ih]; rfl

theorem TwoOK.three {B : Nat → Int} {n : Nat} {Ks Vs : Nat → ByteArray} {H : Nat → Nat} (h : TwoOK B n Ks Vs (cntT H n) 256) : ThreeOK B n Ks Vs H 0 (fun _ _ => none) := by
  refine ⟨h.recs, h.hdr, fun t ht s hs _ => le32_zero (fun j hj => h.tz _ ?_ ?_), fun t ht s hs i hi => (by cases hi), fun i hi => (by omega), fun t ht => (by rw [occ_none]; rfl)⟩
  · have := tposT_ge (posT Ks Vs n) (cntT H n) t
    omega
  · have := tposT_mono (posT Ks Vs n) (cntT H n) ht
    omega

theorem ThreeOK.insert {B : Nat → Int} {n : Nat} {Ks Vs : Nat → ByteArray} {H : Nat → Nat} {i : Nat} {S : Nat → Nat → Option Nat} (h : ThreeOK B n Ks Vs H i S) (d s0 : Nat) (hd : d < 2 * cntT H n (H i % 256)) (hs0 : s0 = (H i / 256 % (2 * cntT H n (H i % 256)) + d) % (2 * cntT H n (H i % 256)))
    (he : S (H i % 256) s0 = none) (hbefore : ∀ d', d' < d → S (H i % 256) ((H i / 256 % (2 * cntT H n (H i % 256)) + d') % (2 * cntT H n (H i % 256))) ≠ none) (hH : H i < 4294967296) (hP : posT Ks Vs i < 4294967296) :
    ∃ S', ThreeOK (put4 (put4 B (tposT (posT Ks Vs n) (cntT H n) (H i % 256) + s0 * 8) (H i)) (tposT (posT Ks Vs n) (cntT H n) (H i % 256) + s0 * 8 + 4) (posT Ks Vs i)) n Ks Vs H (i + 1) S' := by
  have hL : 0 < 2 * cntT H n (H i % 256) := by omega
  have hs0L : s0 < 2 * cntT H n (H i % 256) := by rw [hs0]; exact Nat.mod_lt _ hL
  have ht256 : H i % 256 < 256 := Nat.mod_lt _ (by omega)
  have hg := tposT_ge (posT Ks Vs n) (cntT H n) (H i % 256)
  have hpn := posT_ge Ks Vs n
  have hlow : ∀ j, j < posT Ks Vs n → put4 (put4 B (tposT (posT Ks Vs n) (cntT H n) (H i % 256) + s0 * 8) (H i)) (tposT (posT Ks Vs n) (cntT H n) (H i % 256) + s0 * 8 + 4) (posT Ks Vs i) j = B j := fun j hj => by
    rw [put4_other _ (by omega), put4_other _ (by omega)]
  refine ⟨_, fun j hj => ?_, fun u hu => ?_, h.tabs.insert (B' := put4 (put4 B (tposT (posT Ks Vs n) (cntT H n) (H i % 256) + s0 * 8) (H i)) (tposT (posT Ks Vs n) (cntT H n) (H i % 256) + s0 * 8 + 4) (posT Ks Vs i)) d hd (by rw [← hs0]; exact he) hbefore ?_ ?_ ?_⟩
  · have hr := h.recs j hj
    have hle := hr.le
    exact hr.congr (fun x h1 h2 => hlow x (by omega)) hle
  · obtain ⟨a, b⟩ := h.hdr u hu
    exact ⟨(le32_congr (fun j hj => hlow _ (by omega))).trans a, (le32_congr (fun j hj => hlow _ (by omega))).trans b⟩
  · rw [← hs0, Nat.mul_comm 8 s0, le32_put4_other _ (by omega)]
    exact le32_put4 _ (by omega) (by omega)
  · rw [← hs0, Nat.mul_comm 8 s0]
    exact le32_put4 _ (by omega) (by omega)
  · intro t ht s hs hne
    rw [← hs0] at hne
    have hap : tposT (posT Ks Vs n) (cntT H n) t + 8 * s + 8 ≤ tposT (posT Ks Vs n) (cntT H n) (H i % 256) + s0 * 8 ∨ tposT (posT Ks Vs n) (cntT H n) (H i % 256) + s0 * 8 + 8 ≤ tposT (posT Ks Vs n) (cntT H n) t + 8 * s := by
      rcases Nat.lt_trichotomy t (H i % 256) with h1 | h1 | h1
      · have := tposT_mono (posT Ks Vs n) (cntT H n) h1
        left; omega
      · have : s ≠ s0 := fun e => hne ⟨h1, e⟩
        rw [h1]; omega
      · have := tposT_mono (posT Ks Vs n) (cntT H n) h1
        right; omega
    exact ⟨by rw [le32_put4_other _ (by omega), le32_put4_other _ (by omega)], by rw [le32_put4_other _ (by omega), le32_put4_other _ (by omega)]⟩
end Go.Proofs.YbulkclmFmt
