import Derived.Test.YbulkclmFmtMap
namespace Go.Proofs.YbulkclmFmt
open Go.ChangeShapes Go.WideShapes Go.ChangeAt Go.RowKit
set_option linter.unusedVariables false

/-- A record that the one step may come to. -/
def Hit (B : Nat → Int) (N : Nat) (key V : ByteArray) (found : Bool) (p : Nat) : Prop :=
  ∃ K V', RecOK B N p K V' ∧ 2048 ≤ p ∧ p + 8 + K.size + V'.size < N ∧ (K ≠ key ∨ (K = key ∧ found = true ∧ V' = V))

def stopB (X Y : Nat → Int) (h : Int) (j : Nat) : Nat := if Y j = 0 ∨ X j = h then 1 else 0
theorem stopB_01 (X Y : Nat → Int) (h : Int) (j : Nat) : stopB X Y h j = 0 ∨ stopB X Y h j = 1 := by unfold stopB; split <;> simp
theorem stopB_not {X Y : Nat → Int} {h : Int} {j : Nat} (e : stopB X Y h j = 0) : Y j ≠ 0 ∧ X j ≠ h := by
  unfold stopB at e
  split at e
  · omega
  · rename_i hn; exact ⟨fun h1 => hn (.inl h1), fun h1 => hn (.inr h1)⟩

/-- The first of the four slots at which the walk stops. -/
theorem tz_first (b0 b1 b2 b3 : Nat) (h0 : b0 = 0 ∨ b0 = 1) (h1 : b1 = 0 ∨ b1 = 1) (h2 : b2 = 0 ∨ b2 = 1) (h3 : b3 = 0 ∨ b3 = 1) :
    (tzN (b0 + 2 * b1 + 4 * b2 + 8 * b3) = 0 ∧ b0 = 1) ∨ (tzN (b0 + 2 * b1 + 4 * b2 + 8 * b3) = 1 ∧ b0 = 0 ∧ b1 = 1) ∨ (tzN (b0 + 2 * b1 + 4 * b2 + 8 * b3) = 2 ∧ b0 = 0 ∧ b1 = 0 ∧ b2 = 1) ∨
    (tzN (b0 + 2 * b1 + 4 * b2 + 8 * b3) = 3 ∧ b0 = 0 ∧ b1 = 0 ∧ b2 = 0 ∧ b3 = 1) ∨ (tzN (b0 + 2 * b1 + 4 * b2 + 8 * b3) = 32 ∧ b0 = 0 ∧ b1 = 0 ∧ b2 = 0 ∧ b3 = 0) := by
  rcases h0 with rfl | rfl <;> rcases h1 with rfl | rfl <;> rcases h2 with rfl | rfl <;> rcases h3 with rfl | rfl <;> decide

/-- What the one step comes to. -/
theorem fast_plain {B : Nat → Int} {N tpo L home dstop hk' : Nat} {key V : ByteArray} {found : Bool} (h4 : home + 4 ≤ L)
    (hbefore : ∀ d, d < dstop → ∃ p hh K V, SlotOK B N (tpo + (home + d) % L * 8) p hh K V ∧ K ≠ key)
    (hstop : if found then ∃ p, SlotOK B N (tpo + (home + dstop) % L * 8) p hk' key V else le32 B (tpo + (home + dstop) % L * 8 + 4) = 0)
    (X Y : Nat → Int) (hX : ∀ j, X j = le32 B (tpo + home * 8 + j * 8)) (hY : ∀ j, Y j = le32 B (tpo + home * 8 + j * 8 + 4)) :
    (Y 0 ≠ 0 → ∃ p : Nat, Y 0 = p ∧ Hit B N key V found p) ∧
    (∀ s, s = stopB X Y hk' 0 + 2 * stopB X Y hk' 1 + 4 * stopB X Y hk' 2 + 8 * stopB X Y hk' 3 →
      (∃ i, i < 4 ∧ tzN s = i ∧ Y i = 0 ∧ found = false) ∨ (∃ i, i < 4 ∧ tzN s = i ∧ ∃ p : Nat, Y i = p ∧ Hit B N key V found p) ∨ (tzN s = 32 ∧ ∃ p : Nat, p ≠ 0 ∧ Y 0 = p)) := by
  have hat : ∀ j, j < 4 → tpo + (home + j) % L * 8 = tpo + home * 8 + j * 8 := fun j hj => by
    rw [Nat.mod_eq_of_lt (by omega)]; omega
  have hlow : ∀ j, j < 4 → j < dstop → ∃ p : Nat, Y j = p ∧ Hit B N key V found p := fun j hj hjd => by
    obtain ⟨p, hh, K, V', sok, hne⟩ := hbefore j hjd
    rw [hat j hj] at sok
    exact ⟨p, by rw [hY]; exact sok.h2, K, V', sok.rec_, sok.p0, sok.more, .inl hne⟩
  have hhit : ∀ j, j < 4 → j ≤ dstop → Y j ≠ 0 → ∃ p : Nat, Y j = p ∧ Hit B N key V found p := fun j hj hjd hy => by
    by_cases e : j < dstop
    · exact hlow j hj e
    · have hjd' : j = dstop := by omega
      subst hjd'
      cases found with
      | false =>
        rw [hat j hj] at hstop
        exact absurd ((hY j).trans (by simpa using hstop)) hy
      | true =>
        rw [hat j hj] at hstop
        obtain ⟨p, sok⟩ : ∃ p, SlotOK B N (tpo + home * 8 + j * 8) p hk' key V := by simpa using hstop
        exact ⟨p, by rw [hY]; exact sok.h2, key, V, sok.rec_, sok.p0, sok.more, .inr ⟨rfl, rfl, rfl⟩⟩
  have hle : ∀ i, i < 4 → (∀ d, d < i → stopB X Y hk' d = 0) → i ≤ dstop := fun i hi hd => by
    by_cases e : i ≤ dstop
    · exact e
    · have hlt : dstop < i := by omega
      obtain ⟨n1, n2⟩ := stopB_not (hd dstop hlt)
      rw [hat dstop (by omega)] at hstop
      cases found with
      | false => exact absurd ((hY dstop).trans (by simpa using hstop)) n1
      | true =>
        obtain ⟨p, sok⟩ : ∃ p, SlotOK B N (tpo + home * 8 + dstop * 8) p hk' key V := by simpa using hstop
        exact absurd ((hX dstop).trans sok.h1) n2
  have hpick : ∀ i, i < 4 → (∀ d, d < i → stopB X Y hk' d = 0) → (Y i = 0 ∧ found = false) ∨ ∃ p : Nat, Y i = p ∧ Hit B N key V found p := fun i hi hd => by
    have hid := hle i hi hd
    by_cases hy : Y i = 0
    · left
      refine ⟨hy, ?_⟩
      by_cases e : i < dstop
      · obtain ⟨p, hp, K, V', _, hp0, _⟩ := hlow i hi e
        omega
      · have hjd' : i = dstop := by omega
        subst hjd'
        cases found with
        | false => rfl
        | true =>
          rw [hat i hi] at hstop
          obtain ⟨p, sok⟩ : ∃ p, SlotOK B N (tpo + home * 8 + i * 8) p hk' key V := by simpa using hstop
          have := (hY i).trans sok.h2
          have := sok.p0
          omega
    · exact .inr (hhit i hi hid hy)
  refine ⟨hhit 0 (by omega) (by omega), fun s hs => ?_⟩
  have k0 := stopB_01 X Y hk' 0
  have k1 := stopB_01 X Y hk' 1
  have k2 := stopB_01 X Y hk' 2
  have k3 := stopB_01 X Y hk' 3
  have htz := tz_first _ _ _ _ k0 k1 k2 k3
  rw [← hs] at htz
  have fin : ∀ i, i < 4 → tzN s = i → (∀ d, d < i → stopB X Y hk' d = 0) → (∃ i, i < 4 ∧ tzN s = i ∧ Y i = 0 ∧ found = false) ∨ (∃ i, i < 4 ∧ tzN s = i ∧ ∃ p : Nat, Y i = p ∧ Hit B N key V found p) := fun i hi e hd => by
    rcases hpick i hi hd with ⟨a, b⟩ | hp
    · exact .inl ⟨i, hi, e, a, b⟩
    · exact .inr ⟨i, hi, e, hp⟩
  rcases htz with ⟨e, _⟩ | ⟨e, z0, _⟩ | ⟨e, z0, z1, _⟩ | ⟨e, z0, z1, z2, _⟩ | ⟨e, z0, _⟩
  · rcases fin 0 (by omega) e (fun d hd => by omega) with h | h
    · exact .inl h
    · exact .inr (.inl h)
  · rcases fin 1 (by omega) e (fun d hd => by have : d = 0 := by omega
                                              subst this; exact z0) with h | h
    · exact .inl h
    · exact .inr (.inl h)
  · rcases fin 2 (by omega) e (fun d hd => by have : d = 0 ∨ d = 1 := by omega
                                              rcases this with rfl | rfl <;> assumption) with h | h
    · exact .inl h
    · exact .inr (.inl h)
  · rcases fin 3 (by omega) e (fun d hd => by have : d = 0 ∨ d = 1 ∨ d = 2 := by omega
                                              rcases this with rfl | rfl | rfl <;> assumption) with h | h
    · exact .inl h
    · exact .inr (.inl h)
  · refine .inr (.inr ⟨e, ?_⟩)
    have n1 := (stopB_not z0).1
    obtain ⟨p, hp, _⟩ := hhit 0 (by omega) (by omega) n1
    exact ⟨p, by omega, hp⟩

/-- The seven calls of the one step, one behind the other. -/
theorem stops_chain (g cap N at_ : Nat) (B : Nat → Int) (h : Int) (W : World) (hR : Row W g cap N B) (hB : Byt B) (hat : at_ + 32 ≤ N) (hh : 0 ≤ h ∧ h < 4294967296) (X Y : Nat → Int) (hX : ∀ j, X j = le32 B (at_ + j * 8)) (hY : ∀ j, Y j = le32 B (at_ + j * 8 + 4)) :
    Calls Ybaf.prog 25 #[.int .u64 (X 0 + Y 0 * 4294967296), .int .u32 h] W fun e wa => e = .returned (.int .u32 (stopB X Y h 0)) ∧
    Calls Ybaf.prog 24 #[.agg #[], .slice (some ⟨g, at_ + 8, none⟩) 24 24] wa fun e wb => e = .returned (.int .u64 (X 1 + Y 1 * 4294967296)) ∧
    Calls Ybaf.prog 25 #[.int .u64 (X 1 + Y 1 * 4294967296), .int .u32 h] wb fun e wc => e = .returned (.int .u32 (stopB X Y h 1)) ∧
    Calls Ybaf.prog 24 #[.agg #[], .slice (some ⟨g, at_ + 16, none⟩) 16 16] wc fun e wd => e = .returned (.int .u64 (X 2 + Y 2 * 4294967296)) ∧
    Calls Ybaf.prog 25 #[.int .u64 (X 2 + Y 2 * 4294967296), .int .u32 h] wd fun e we => e = .returned (.int .u32 (stopB X Y h 2)) ∧
    Calls Ybaf.prog 24 #[.agg #[], .slice (some ⟨g, at_ + 24, none⟩) 8 8] we fun e wf => e = .returned (.int .u64 (X 3 + Y 3 * 4294967296)) ∧
    Calls Ybaf.prog 25 #[.int .u64 (X 3 + Y 3 * 4294967296), .int .u32 h] wf fun e wg => e = .returned (.int .u32 (stopB X Y h 3)) ∧ Hid (Below W.heap.size W wg) := by
  have rX : ∀ j, 0 ≤ X j ∧ X j < 4294967296 := fun j => by rw [hX]; exact le32_range hB _
  have rY : ∀ j, 0 ≤ Y j ∧ Y j < 4294967296 := fun j => by rw [hY]; exact le32_range hB _
  have st : ∀ j (w : World), Calls Ybaf.prog 25 #[.int .u64 (X j + Y j * 4294967296), .int .u32 h] w fun e w' => e = .returned (.int .u32 (stopB X Y h j)) ∧ w' = w := fun j w =>
    stop_any (X j) (Y j) h _ w (rX j) (rY j) hh (by unfold stopB; split <;> rfl)
  have ul : ∀ j (w : World) (n : Nat), j < 4 → 8 ≤ n → Below W.heap.size W w → Calls Ybaf.prog 24 #[.agg #[], .slice (some ⟨g, at_ + j * 8, none⟩) n n] w fun e w' => e = .returned (.int .u64 (X j + Y j * 4294967296)) ∧ Below W.heap.size W w' := fun j w n hj hn hb => by
    refine (uint64_any g (at_ + j * 8) n n B (at_ + j * 8) w hn hB (fun i hi => (hR.later hb).at_ _ (by omega))).mono ?_
    rintro e w1 ⟨rfl, hb1⟩
    exact ⟨by rw [hX, hY], hb.trans (hb1.mono hb.size)⟩
  refine (st 0 W).mono ?_
  rintro e wa ⟨rfl, rfl⟩
  refine ⟨rfl, (ul 1 wa 24 (by omega) (by omega) (Below.refl _ _)).mono ?_⟩
  rintro e wb ⟨rfl, hb1⟩
  refine ⟨rfl, (st 1 wb).mono ?_⟩
  rintro e wc ⟨rfl, rfl⟩
  refine ⟨rfl, (ul 2 wc 16 (by omega) (by omega) hb1).mono ?_⟩
  rintro e wd ⟨rfl, hb2⟩
  refine ⟨rfl, (st 2 wd).mono ?_⟩
  rintro e we ⟨rfl, rfl⟩
  refine ⟨rfl, (ul 3 we 8 (by omega) (by omega) hb2).mono ?_⟩
  rintro e wf ⟨rfl, hb3⟩
  refine ⟨rfl, (st 3 wf).mono ?_⟩
  rintro e wg ⟨rfl, rfl⟩
  exact ⟨rfl, hb3⟩
end Go.Proofs.YbulkclmFmt
