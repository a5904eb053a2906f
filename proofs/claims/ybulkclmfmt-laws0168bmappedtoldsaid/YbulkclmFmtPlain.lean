import Derived.Test.YbulkclmFmtStr
namespace Go.Proofs.YbulkclmFmt
set_option linter.unusedVariables false

/-- Where record i lies. -/
def posT (Ks Vs : Nat → ByteArray) : Nat → Nat
  | 0 => 2048
  | i + 1 => posT Ks Vs i + 8 + (Ks i).size + (Vs i).size

/-- How many of the first k have table t. -/
def cntT (H : Nat → Nat) : Nat → Nat → Nat
  | 0, _ => 0
  | k + 1, t => cntT H k t + (if H k % 256 = t then 1 else 0)

/-- Where table t lies. -/
def tposT (base : Nat) (c : Nat → Nat) : Nat → Nat
  | 0 => base
  | t + 1 => tposT base c t + 16 * c t

theorem posT_ge (Ks Vs : Nat → ByteArray) (i : Nat) : 2048 ≤ posT Ks Vs i := by
  induction i with
  | zero => exact Nat.le_refl _
  | succ i ih => unfold posT; omega
theorem posT_mono (Ks Vs : Nat → ByteArray) {i k : Nat} (h : i < k) : posT Ks Vs i + 8 + (Ks i).size + (Vs i).size ≤ posT Ks Vs k := by
  induction k with
  | zero => omega
  | succ k ih =>
    by_cases e : i = k
    · subst e; exact Nat.le_refl _
    · have := ih (by omega)
      show _ ≤ posT Ks Vs k + 8 + (Ks k).size + (Vs k).size
      omega
theorem tposT_ge (base : Nat) (c : Nat → Nat) (t : Nat) : base ≤ tposT base c t := by
  induction t with
  | zero => exact Nat.le_refl _
  | succ t ih => unfold tposT; omega
theorem tposT_mono (base : Nat) (c : Nat → Nat) {t u : Nat} (h : t < u) : tposT base c t + 16 * c t ≤ tposT base c u := by
  induction u with
  | zero => omega
  | succ u ih =>
    by_cases e : t = u
    · subst e; exact Nat.le_refl _
    · have := ih (by omega)
      show _ ≤ tposT base c u + 16 * c u
      omega
theorem cntT_le (H : Nat → Nat) (k t : Nat) : cntT H k t ≤ k := by
  induction k with
  | zero => exact Nat.le_refl _
  | succ k ih => unfold cntT; split <;> omega
theorem cntT_mono (H : Nat → Nat) (t : Nat) {k n : Nat} (h : k ≤ n) : cntT H k t ≤ cntT H n t := by
  induction n with
  | zero => have : k = 0 := by omega
            subst this; exact Nat.le_refl _
  | succ n ih =>
    by_cases e : k = n + 1
    · subst e; exact Nat.le_refl _
    · have := ih (by omega)
      show _ ≤ cntT H n t + _
      omega
theorem cntT_lt (H : Nat → Nat) {k n : Nat} (h : k < n) : cntT H k (H k % 256) + 1 ≤ cntT H n (H k % 256) := by
  have := cntT_mono H (H k % 256) (k := k + 1) (n := n) h
  have e : cntT H (k + 1) (H k % 256) = cntT H k (H k % 256) + 1 := by
    show cntT H k _ + _ = _
    rw [if_pos rfl]
  omega
theorem tposT_le (base : Nat) (c : Nat → Nat) (m : Nat) (hc : ∀ t, c t ≤ m) (t : Nat) : tposT base c t ≤ base + t * (16 * m) := by
  induction t with
  | zero => simp [tposT]
  | succ t ih =>
    have := hc t
    show tposT base c t + 16 * c t ≤ _
    have e : (t + 1) * (16 * m) = t * (16 * m) + 16 * m := by rw [Nat.add_mul, Nat.one_mul]
    omega

/-- A record at p. -/
structure RecOK (B : Nat → Int) (N p : Nat) (K V : ByteArray) : Prop where
  kl : le32 B p = K.size
  vl : le32 B (p + 4) = V.size
  kb : ∀ j, j < K.size → B (p + 8 + j) = strB K j
  vb : ∀ j, j < V.size → B (p + 8 + K.size + j) = strB V j
  le : p + 8 + K.size + V.size ≤ N

/-- How full a table is. -/
def occ (S : Nat → Option Nat) (L : Nat) : Nat := ((List.range L).filter fun s => (S s).isSome).length

theorem occ_succ (S : Nat → Option Nat) (L : Nat) : occ S (L + 1) = occ S L + (if (S L).isSome then 1 else 0) := by
  unfold occ
  rw [List.range_succ, List.filter_append, List.length_append]
  congr 1
  by_cases h : (S L).isSome = true
  · simp [h]
  · simp [h]

theorem occ_lt {S : Nat → Option Nat} {L : Nat} (h : occ S L < L) : ∃ s, s < L ∧ S s = none := by
  induction L with
  | zero => omega
  | succ L ih =>
    rw [occ_succ] at h
    by_cases hs : (S L).isSome = true
    · rw [if_pos hs] at h
      obtain ⟨s, h1, h2⟩ := ih (by omega)
      exact ⟨s, by omega, h2⟩
    · exact ⟨L, by omega, by simpa using hs⟩

theorem occ_set {S : Nat → Option Nat} {L s i : Nat} (hs : s < L) (he : S s = none) : occ (fun x => if x = s then some i else S x) L = occ S L + 1 := by
  induction L with
  | zero => omega
  | succ L ih =>
    rw [occ_succ, occ_succ]
    by_cases e : s = L
    · subst e
      have : occ (fun x => if x = s then some i else S x) s = occ S s := by
        unfold occ
        congr 1
        apply List.filter_congr
        intro x hx
        have : x < s := by simpa using hx
        simp [show x ≠ s by omega]
      rw [this]
      simp [he]
    · rw [ih (by omega)]
      have : L ≠ s := fun h => e h.symm
      simp only [this, if_false]
      omega

/-- Slot number d from home on. -/
theorem slot_next {L x : Nat} (hx : x < L) (home d : Nat) (h : x = (home + d) % L) : (if x + 1 = L then 0 else x + 1) = (home + (d + 1)) % L := by
  rw [← Nat.add_assoc, Nat.add_mod, ← h]
  by_cases e : x + 1 = L
  · rw [if_pos e]
    by_cases h1 : L = 1
    · subst h1; simp [Nat.mod_one]
    · rw [Nat.mod_eq_of_lt (a := 1) (by omega), e, Nat.mod_self]
  · rw [if_neg e]
    rw [Nat.mod_eq_of_lt (a := 1) (by omega), Nat.mod_eq_of_lt (by omega)]

theorem reach {L home s : Nat} (hh : home < L) (hs : s < L) : ∃ d, d < L ∧ (home + d) % L = s := by
  by_cases h : home ≤ s
  · exact ⟨s - home, by omega, by rw [show home + (s - home) = s by omega, Nat.mod_eq_of_lt hs]⟩
  · refine ⟨s + L - home, by omega, ?_⟩
    rw [show home + (s + L - home) = s + L by omega, Nat.add_mod_right, Nat.mod_eq_of_lt hs]

/-- The least of what there is. -/
theorem least {p : Nat → Prop} [DecidablePred p] {m : Nat} (h : p m) : ∃ d, d ≤ m ∧ p d ∧ ∀ d', d' < d → ¬ p d' := by
  induction m using Nat.strongRecOn with
  | _ m ih =>
    by_cases hx : ∃ d', d' < m ∧ p d'
    · obtain ⟨d', h1, h2⟩ := hx
      obtain ⟨d, a, b, c⟩ := ih d' h1 h2
      exact ⟨d, by omega, b, c⟩
    · exact ⟨m, Nat.le_refl _, h, fun d' h1 h2 => hx ⟨d', h1, h2⟩⟩

/-- The tables when the first k records are in. -/
structure TabsOK (B : Nat → Int) (k : Nat) (H : Nat → Nat) (pos : Nat → Nat) (c : Nat → Nat) (tp : Nat → Nat) (S : Nat → Nat → Option Nat) : Prop where
  none_ : ∀ t, t < 256 → ∀ s, s < 2 * c t → S t s = none → le32 B (tp t + 8 * s + 4) = 0
  some_ : ∀ t, t < 256 → ∀ s, s < 2 * c t → ∀ i, S t s = some i → i < k ∧ H i % 256 = t ∧ le32 B (tp t + 8 * s) = H i ∧ le32 B (tp t + 8 * s + 4) = pos i
  ins : ∀ i, i < k → ∃ d, d < 2 * c (H i % 256) ∧ S (H i % 256) ((H i / 256 % (2 * c (H i % 256)) + d) % (2 * c (H i % 256))) = some i ∧ ∀ d', d' < d → ∃ j, j < i ∧ S (H i % 256) ((H i / 256 % (2 * c (H i % 256)) + d') % (2 * c (H i % 256))) = some j
  occ_ : ∀ t, t < 256 → occ (S t) (2 * c t) = cntT H k t

theorem TabsOK.empty {B : Nat → Int} {k : Nat} {H pos c tp : Nat → Nat} {S : Nat → Nat → Option Nat} (h : TabsOK B k H pos c tp S) {t : Nat} (ht : t < 256) (hk : cntT H k t ≤ c t) (hc : 0 < c t) : ∃ s, s < 2 * c t ∧ S t s = none :=
  occ_lt (by rw [h.occ_ t ht]; omega)

/-- Record k goes into slot s. -/
theorem TabsOK.insert {B B' : Nat → Int} {k : Nat} {H pos c tp : Nat → Nat} {S : Nat → Nat → Option Nat} (h : TabsOK B k H pos c tp S) (d : Nat) (hd : d < 2 * c (H k % 256))
    (he : S (H k % 256) ((H k / 256 % (2 * c (H k % 256)) + d) % (2 * c (H k % 256))) = none)
    (hbefore : ∀ d', d' < d → S (H k % 256) ((H k / 256 % (2 * c (H k % 256)) + d') % (2 * c (H k % 256))) ≠ none)
    (h1 : le32 B' (tp (H k % 256) + 8 * ((H k / 256 % (2 * c (H k % 256)) + d) % (2 * c (H k % 256)))) = H k) (h2 : le32 B' (tp (H k % 256) + 8 * ((H k / 256 % (2 * c (H k % 256)) + d) % (2 * c (H k % 256))) + 4) = pos k)
    (hsame : ∀ t, t < 256 → ∀ s, s < 2 * c t → ¬ (t = H k % 256 ∧ s = (H k / 256 % (2 * c (H k % 256)) + d) % (2 * c (H k % 256))) → le32 B' (tp t + 8 * s) = le32 B (tp t + 8 * s) ∧ le32 B' (tp t + 8 * s + 4) = le32 B (tp t + 8 * s + 4)) :
    TabsOK B' (k + 1) H pos c tp (fun t s => if t = H k % 256 ∧ s = (H k / 256 % (2 * c (H k % 256)) + d) % (2 * c (H k % 256)) then some k else S t s) := by
  have hL : 0 < 2 * c (H k % 256) := by omega
  have hs0 := Nat.mod_lt (H k / 256 % (2 * c (H k % 256)) + d) hL
  generalize hs : (H k / 256 % (2 * c (H k % 256)) + d) % (2 * c (H k % 256)) = s0 at *
  refine ⟨fun t ht s hsl hn => ?_, fun t ht s hsl i hi => ?_, fun i hi => ?_, fun t ht => ?_⟩
  · by_cases e : t = H k % 256 ∧ s = s0
    · rw [if_pos e] at hn; cases hn
    · rw [if_neg e] at hn
      rw [(hsame t ht s hsl e).2]
      exact h.none_ t ht s hsl hn
  · by_cases e : t = H k % 256 ∧ s = s0
    · rw [if_pos e] at hi
      cases hi
      obtain ⟨rfl, rfl⟩ := e
      exact ⟨by omega, rfl, h1, h2⟩
    · rw [if_neg e] at hi
      obtain ⟨a, b, x, y⟩ := h.some_ t ht s hsl i hi
      obtain ⟨p, q⟩ := hsame t ht s hsl e
      exact ⟨by omega, b, p.trans x, q.trans y⟩
  · by_cases e : i = k
    · subst e
      refine ⟨d, hd, by rw [if_pos ⟨rfl, hs⟩], fun d' hd' => ?_⟩
      have hne := hbefore d' hd'
      cases hsd : S (H i % 256) ((H i / 256 % (2 * c (H i % 256)) + d') % (2 * c (H i % 256))) with
      | none => exact absurd hsd hne
      | some j =>
        have hj := h.some_ (H i % 256) (Nat.mod_lt _ (by omega)) _ (Nat.mod_lt _ hL) j hsd
        refine ⟨j, hj.1, ?_⟩
        rw [if_neg (fun hx => by rw [hx.2] at hsd; rw [hsd] at he; cases he)]
    · obtain ⟨d1, hd1, hs1, hb1⟩ := h.ins i (by omega)
      refine ⟨d1, hd1, ?_, fun d' hd' => ?_⟩
      · rw [if_neg (fun hx => by rw [hx.2, hx.1] at hs1; rw [hs1] at he; cases he)]
        exact hs1
      · obtain ⟨j, hj, hsj⟩ := hb1 d' hd'
        refine ⟨j, hj, ?_⟩
        rw [if_neg (fun hx => by rw [hx.2, hx.1] at hsj; rw [hsj] at he; cases he)]
        exact hsj
  · by_cases e : t = H k % 256
    · subst e
      have := occ_set (i := k) hs0 he
      have e2 : (fun s => if H k % 256 = H k % 256 ∧ s = s0 then some k else S (H k % 256) s) = fun x => if x = s0 then some k else S (H k % 256) x := by
        funext x; simp
      rw [e2, this, h.occ_ _ ht]
      show _ = cntT H k _ + _
      rw [if_pos rfl]
    · have e2 : (fun s => if t = H k % 256 ∧ s = s0 then some k else S t s) = S t := by
        funext x; simp [e]
      rw [e2, h.occ_ _ ht]
      show _ = cntT H k _ + _
      rw [if_neg (fun h => e h.symm)]
      rfl

/-- Where a look-up for key comes to. -/
theorem TabsOK.look {B : Nat → Int} {n : Nat} {H pos tp : Nat → Nat} {S : Nat → Nat → Option Nat} {Ks : Nat → ByteArray} (h : TabsOK B n H pos (cntT H n) tp S) (key : ByteArray) (hk : Nat) (hH : ∀ i, i < n → Ks i = key → H i = hk) :
    ((∃ i, i < n ∧ Ks i = key ∧ (∀ j, j < i → Ks j ≠ key) ∧ ∃ d, d < 2 * cntT H n (hk % 256) ∧ S (hk % 256) ((hk / 256 % (2 * cntT H n (hk % 256)) + d) % (2 * cntT H n (hk % 256))) = some i ∧ ∀ d', d' < d → ∃ j, S (hk % 256) ((hk / 256 % (2 * cntT H n (hk % 256)) + d') % (2 * cntT H n (hk % 256))) = some j ∧ Ks j ≠ key)) ∨
    ((∀ i, i < n → Ks i ≠ key) ∧ (cntT H n (hk % 256) = 0 ∨ ∃ d, d < 2 * cntT H n (hk % 256) ∧ S (hk % 256) ((hk / 256 % (2 * cntT H n (hk % 256)) + d) % (2 * cntT H n (hk % 256))) = none ∧ ∀ d', d' < d → ∃ j, S (hk % 256) ((hk / 256 % (2 * cntT H n (hk % 256)) + d') % (2 * cntT H n (hk % 256))) = some j ∧ Ks j ≠ key)) := by
  by_cases hx : ∃ i, i < n ∧ Ks i = key
  · left
    obtain ⟨i0, h1, h2⟩ := hx
    obtain ⟨i, hi, hp, hmin⟩ := least (p := fun i => Ks i = key) h2
    have hin : i < n := by omega
    have hHi := hH i hin hp
    obtain ⟨d, hd, hs, hbefore⟩ := h.ins i hin
    rw [hHi] at hd hs hbefore
    refine ⟨i, hin, hp, hmin, d, hd, hs, fun d' hd' => ?_⟩
    obtain ⟨j, hj, hsj⟩ := hbefore d' hd'
    exact ⟨j, hsj, hmin j hj⟩
  · right
    have hno : ∀ i, i < n → Ks i ≠ key := fun i h1 h2 => hx ⟨i, h1, h2⟩
    refine ⟨hno, ?_⟩
    by_cases hc : cntT H n (hk % 256) = 0
    · exact .inl hc
    · right
      have ht : hk % 256 < 256 := Nat.mod_lt _ (by omega)
      obtain ⟨s, hs, he⟩ := h.empty ht (Nat.le_refl _) (by omega)
      have hL : 0 < 2 * cntT H n (hk % 256) := by omega
      obtain ⟨d0, hd0, hr⟩ := reach (L := 2 * cntT H n (hk % 256)) (home := hk / 256 % (2 * cntT H n (hk % 256))) (Nat.mod_lt _ hL) hs
      obtain ⟨d, hdle, hp, hmin⟩ := least (p := fun d => S (hk % 256) ((hk / 256 % (2 * cntT H n (hk % 256)) + d) % (2 * cntT H n (hk % 256))) = none) (m := d0) (by rw [hr]; exact he)
      refine ⟨d, by omega, hp, fun d' hd' => ?_⟩
      have := hmin d' hd'
      cases hsd : S (hk % 256) ((hk / 256 % (2 * cntT H n (hk % 256)) + d') % (2 * cntT H n (hk % 256))) with
      | none => exact absurd hsd this
      | some j => exact ⟨j, rfl, hno j (h.some_ _ ht _ (Nat.mod_lt _ hL) j hsd).1⟩
end Go.Proofs.YbulkclmFmt
