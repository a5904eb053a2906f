import Derived.Test.YbulkclmFmtAppend
namespace Go.Proofs.YbulkclmFmt
open Go.ChangeShapes Go.WideShapes Go.ChangeAt Go.RowKit
set_option linter.unusedVariables false

/-- The contract of AppendValue, as check wants it. -/
def AVal (w0 : World) (D ld n : Nat) (Ks Vs : Nat → ByteArray) (it : Nat) (E : Value) : Prop :=
  ∀ (w : World) (key : ByteArray) (ka : Option Addr) (kc bk : Nat) (BK : Nat → Int), Below w0.heap.size w0 w → w0.heap.size ≤ bk → Sl w ka key.size (strB key) → key.size ≤ 1048576 → key.size ≤ kc → Row w bk (ld + 64) (ld + 64) BK →
    Calls Ybaf.prog 15 #[.pointer (some ⟨D, 0, none⟩), .slice (some ⟨bk, 0, none⟩) ld (ld + 64), .slice ka key.size kc] w fun e w' =>
      (∃ i, Found n Ks key i ∧ ∃ g' cap', e = .returned (.tuple #[.slice (some ⟨g', 0, none⟩) (ld + (Vs i).size) cap', .nilIface]) ∧ Row w' g' cap' (ld + (Vs i).size) (catB BK ld (strB (Vs i))) ∧ Hole bk w.heap.size w w' ∧
        Row w' bk (ld + 64) (ld + 64) (fun j => if ld + (Vs i).size ≤ ld + 64 ∧ ld ≤ j ∧ j < ld + (Vs i).size then strB (Vs i) (j - ld) else BK j)) ∨
      (Missing n Ks key ∧ e = .returned (.tuple #[.slice (some ⟨bk, 0, none⟩) ld (ld + 64), .iface it E]) ∧ Below w.heap.size w w')

/-- 'copy(backing, dst)'. -/
theorem copy_dst {w : World} {b ld : Nat} {a : Option Addr} {dB : Nat → Int} (hb : Row w b (ld + 64) (ld + 64) (fun _ => 0)) (ha : Sl w a ld dB) (c : Nat) (ty : TypeId) :
    ∃ w', (∀ ty, (Builtin.copy_ #[23, 23] ty #[.slice (some ⟨b, 0, none⟩) (ld + 64) (ld + 64), .slice a ld c]).run Ybaf.prog w = .ok (.int .i64 ld) w') ∧ Row w' b (ld + 64) (ld + 64) (fun j => if j < ld then dB j else 0) ∧ Hole b w.heap.size w w' ∧ w'.heap.size = w.heap.size := by
  rcases Nat.eq_zero_or_pos ld with h0 | h0
  · subst h0
    exact ⟨w, fun ty => run_copy_none (P := Ybaf.prog) w 23 23 ty 5 _ a 64 64 0 c Ybaf.underlying23 sz5 (by simp), hb.congr (fun j hj => by rw [if_neg (by omega)]), Hole.refl _ _ _, rfl⟩
  · rcases ha with h | ⟨b', o, rfl, hc⟩
    · omega
    · refine ⟨w.setCells b 0 (cellsOf dB ld), fun ty => ?_, ?_, Hole.setCells _ _ _ _ _, setCells_size _ _ _ _⟩
      · have h := run_copy_cells (P := Ybaf.prog) w 23 23 ty 5 b 0 (ld + 64) (ld + 64) ⟨b', o, none⟩ ld c (cellsOf dB ld) Ybaf.underlying23 sz5 (by rw [cellsOf_length]; exact (Nat.min_eq_left (by omega)).symm)
          (fun j v hv => by
            have hj : j < ld := by have := (List.getElem?_eq_some_iff.1 hv).1; rwa [cellsOf_length] at this
            rw [cellsOf_get? hj] at hv
            cases hv
            rw [Go.WideShapes.add_plain]
            have := hc j hj
            rwa [Nat.zero_add] at this)
          (fun j hj => by rw [cellsOf_length] at hj; rw [Nat.zero_add]; exact hb.room.there j (by omega)) (fun j hj => hb.room.free _)
          (fun v hv => by unfold cellsOf at hv; obtain ⟨_, _, rfl⟩ := List.mem_map.1 hv; rfl)
        rw [h, cellsOf_length]
        rfl
      · have := hb.setCells 0 ld dB (Nat.zero_le _) (by omega)
        rw [show max (ld + 64) (0 + ld) = ld + 64 by omega] at this
        exact this.congr (fun j hj => by
          by_cases e : j < ld
          · rw [if_pos (by omega), if_pos e]; rfl
          · rw [if_neg (by omega), if_neg e])

theorem Row.sl {w : World} {g cap n : Nat} {B : Nat → Int} (h : Row w g cap n B) (m : Nat) (hm : m ≤ n) : Sl w (some ⟨g, 0, none⟩) m B := .inr ⟨g, 0, rfl, fun j hj => by rw [Nat.zero_add]; exact h.at_ j (by omega)⟩

theorem Found.unique {n : Nat} {Ks : Nat → ByteArray} {key : ByteArray} {i j : Nat} (h : Found n Ks key i) (k : Found n Ks key j) : i = j := by
  rcases Nat.lt_trichotomy i j with h1 | h1 | h1
  · exact absurd h.2.1 (k.2.2 i h1)
  · exact h1
  · exact absurd k.2.1 (h.2.2 j h1)

/-- What the backing row holds before the call. -/
def fillB (dB : Nat → Int) (ld k : Nat) : Nat → Int := fun j => if j < ld then dB j else if j < k then 165 else 0

set_option maxRecDepth 100000 in
set_option maxHeartbeats 16000000 in
theorem check_any (a0 a1 a2 a3 : Option Addr) (l0 c0 l1 c1 l2 c2 ld c3 n D : Nat) (Ks Vs Qs : Nat → ByteArray) (dB : Nat → Int) (it : Nat) (E : Value) (w0 : World)
    (hK : StrRow w0 a0 n Ks) (hV : StrRow w0 a1 n Vs) (hQ : StrRow w0 a2 l2 Qs) (hd : Sl w0 a3 ld dB) (hdB : Byt dB) (h0 : n ≤ l0) (h1 : n ≤ l1) (hn : n ≤ 512) (h2 : l2 ≤ 512) (hld : ld ≤ 4096) (hdc : ld ≤ c3)
    (hKs : ∀ i, i < n → (Ks i).size ≤ 1048576) (hVs : ∀ i, i < n → (Vs i).size ≤ 1048576) (hQs : ∀ i, i < l2 → (Qs i).size ≤ 1048576)
    (hg1 : w0.cell? ⟨1, 0, none⟩ = some (.iface it E)) (hcmp : ∀ w : World, (binOp .neq 28 (.iface it E) (.iface it E)).run Ybaf.prog w = .ok (.bool false) w) (hav : AVal w0 D ld n Ks Vs it E) :
    Calls Ybaf.prog 8 #[.pointer (some ⟨D, 0, none⟩), .slice a0 l0 c0, .slice a1 l1 c1, .slice a2 l2 c2, .slice a3 ld c3, .int .i64 n] w0 fun e w' => e = .returned (.bool true) ∧ Below w0.heap.size w0 w' := by
  have HA := hide hav
  have HS := hide (And.intro hK (And.intro hV (And.intro hQ (And.intro hd (And.intro hKs (And.intro hVs (And.intro hQs hg1)))))))
  clear hav hK hV hQ hd hKs hVs hQs hg1
  have hmk : ∀ w : World, (Instr.makeSlice 23 (.int .i64 ((ld : Int) + 64)) (.int .i64 ((ld : Int) + 64))).run Ybaf.prog w = .ok (.slice (some ⟨w.heap.size, 0, none⟩) (ld + 64) (ld + 64)) (w.alloc (.cells (madeCells #[.int .u8 0] (ld + 64)) 5)) := fun w => run_make_row' (P := Ybaf.prog) 23 5 (.int .u8 0) 1 Ybaf.underlying23 info5 rfl .i64 .i64 (ld + 64) (by omega) (by omega) w
  go_enter Ybaf.func8, Ybaf.ntmps8
  go_wp2_with fail
  go_loopw [13] (fun t wr => ∃ i : Nat, i ≤ n + l2 ∧ t = .int .i64 i ∧ Below w0.heap.size w0 wr) (fun t _ => n + l2 - (intOf t).toNat)
  case atStart => exact ⟨0, Nat.zero_le _, rfl, Below.refl _ _⟩
  case round =>
    obtain ⟨i, hi, rfl, hbr⟩ := hrel
    by_cases hlt : i < n + l2
    · obtain ⟨hK, hV, hQ, hd, hKs, hVs, hQs, hg1⟩ := HS.out
      have hltI : (i : Int) < (n : Int) + (l2 : Int) := by omega
      obtain ⟨key, hkey⟩ : ∃ key, key = (if i < n then Ks i else Qs (i - n)) := ⟨_, rfl⟩
      have hksz : key.size ≤ 1048576 := by
        rw [hkey]
        by_cases h : i < n
        · rw [if_pos h]; exact hKs i h
        · rw [if_neg h]; exact hQs (i - n) (by omega)
      by_cases hin : i < n
      case' pos =>
        have hinI : (i : Int) < (n : Int) := by omega
        rw [if_pos hin] at hkey
        rcases hK with hx | ⟨b0, off0, ha0, hb0, hc0⟩
        · omega
        have hkc := (hbr.cell (p := ⟨b0, off0 + i, none⟩) hb0).trans (hc0 i hin)
        rw [← hkey] at hkc
        have hil : i < l0 := by omega
        cases ha0
        have hK : StrRow w0 (some ⟨b0, off0, none⟩) n Ks := .inr ⟨b0, off0, rfl, hb0, hc0⟩
        clear hc0 hkey
        go_wp2_with fail
      case' neg =>
        have hinI : decide ((i : Int) < (n : Int)) = false := by simp; omega
        rw [if_neg hin] at hkey
        obtain ⟨m, hm⟩ : ∃ m, i = n + m := ⟨i - n, by omega⟩
        rcases hQ with hx | ⟨b0, off0, ha0, hb0, hc0⟩
        · omega
        have hkc := (hbr.cell (p := ⟨b0, off0 + m, none⟩) hb0).trans (hc0 m (by omega))
        rw [show m = i - n by omega, ← hkey, show i - n = m by omega] at hkc
        have hsub : ((i : Int) - (n : Int)) = (m : Int) := by omega
        have hil : m < l2 := by omega
        cases ha0
        clear hc0 hkey hm
        go_wp2_with fail
      all_goals (
        clear hkc
        go_loopw [17, 15, 16] (fun t fv wv w2 => ∃ j : Nat, j ≤ n ∧ t = .int .i64 j ∧ fv = .bool false ∧ wv = .string ⟨#[]⟩ ∧ w2 = wr ∧ ∀ j', j' < j → Ks j' ≠ key) (fun t _ _ _ => n - (intOf t).toNat)
        case atStart => exact ⟨0, Nat.zero_le _, rfl, rfl, rfl, rfl, fun j' h => by omega⟩
        case round =>
          obtain ⟨j, hjl, rfl, rfl, rfl, rfl, hnone⟩ := hrel
          by_cases hjn : j < n
          · have hjnI : (j : Int) < (n : Int) := by omega
            rcases hK with hx | ⟨bk0, offk, hka, hbk0, hck0⟩
            · omega
            rcases hV with hx | ⟨bv0, offv, hva, hbv0, hcv0⟩
            · omega
            have hkj := (hbr.cell (p := ⟨bk0, offk + j, none⟩) hbk0).trans (hck0 j hjn)
            have hvj := (hbr.cell (p := ⟨bv0, offv + j, none⟩) hbv0).trans (hcv0 j hjn)
            clear hck0 hcv0
            by_cases hj : Ks j = key
            · have hbq : ((Ks j).toList == key.toList) = true := by rw [beq_str]; simp [hj]
              have hjl0 : j < l0 := by omega
              have hjl1 : j < l1 := by omega
              cases hka
              cases hva
              obtain ⟨wo, rfl⟩ : ∃ wo : World, wo = wr := ⟨_, rfl⟩
              have hbW1 : Below w0.heap.size w0 (wo.alloc (.cells (madeCells #[.int .u8 0] (ld + 64)) 5)) := hbr.alloc hbr.size _
              obtain ⟨W2, hcp, hrow2, hh2, hs2⟩ := copy_dst (Row.made wo (ld + 64)) (hd.later hbW1) c3 3
              have hbW2 : Below w0.heap.size w0 W2 := hbW1.trans (hh2.below (by simp; exact Nat.le_succ_of_le hbr.size) hbr.size)
              have HR2 := hide (And.intro hrow2 hbW2)
              have hbs := hbr.size
              have HBR := hide hbr
              clear hh2 hrow2 hbW1 hbW2 hbr
              go_wp2_with fail
              clear hcp hmk
              go_loopw [19] (fun t w3 => ∃ k : Nat, ld ≤ k ∧ k ≤ ld + 64 ∧ t = .int .i64 k ∧ Row w3 wo.heap.size (ld + 64) (ld + 64) (fillB dB ld k) ∧ Below w0.heap.size w0 w3) (fun t _ => ld + 64 - (intOf t).toNat)
              case atStart => exact ⟨ld, Nat.le_refl _, by omega, rfl, HR2.out.1.congr (fun j hj => by unfold fillB; by_cases e : j < ld <;> simp [e]), HR2.out.2⟩
              case round =>
                obtain ⟨k, hk1, hk2, rfl, hrow, hb3⟩ := hrel
                by_cases hk3 : k < ld + 64
                · have hk3I : (k : Int) < (ld : Int) + 64 := by omega
                  have hck := hrow.at_ k hk3
                  have hcf := hrow.room.free k
                  have HR3 := hide (And.intro hrow hb3)
                  clear hrow hb3
                  generalize fillB dB ld k k = v0 at *
                  go_wp2_with fail
                  go_roundw
                  case rel =>
                    exact ⟨k + 1, by omega, by omega, by go_num, (HR3.out.1.setCell k hk3 165).congr (fun j hj => by
                      unfold fillB
                      by_cases e : j = k
                      · subst e; rw [if_pos rfl, if_neg (by omega), if_pos (by omega)]
                      · rw [if_neg e]
                        by_cases e1 : j < ld
                        · rw [if_pos e1, if_pos e1]
                        · rw [if_neg e1, if_neg e1]
                          by_cases e2 : j < k
                          · rw [if_pos e2, if_pos (by omega)]
                          · rw [if_neg e2, if_neg (by omega)]), HR3.out.2.setCell (p := ⟨wo.heap.size, k, none⟩) hbs _⟩
                  case measure => simp [intOf]; omega
                · have hk4 : k = ld + 64 := by omega
                  subst hk4
                  have hk3I : decide (((ld + 64 : Nat) : Int) < (ld : Int) + 64) = false := by simp
                  have hBK : ∀ j, j < ld → fillB dB ld (ld + 64) j = dB j := fun j hj => by unfold fillB; rw [if_pos hj]
                  have hBK2 : ∀ j, ld ≤ j → j < ld + 64 → fillB dB ld (ld + 64) j = 165 := fun j h1 h2 => by unfold fillB; rw [if_neg (by omega), if_pos h2]
                  have hBKb : Byt (fillB dB ld (ld + 64)) := fun j => by unfold fillB; have := hdB j; repeat' split; all_goals omega
                  obtain ⟨kc, w4, hconv, hkc4, hb4, hs4, hat4⟩ := bytes_of wr key
                  have hb04 := hb3.trans (hb4.mono hb3.size)
                  have hav := HA.out w4 key (some ⟨wr.heap.size, 0, none⟩) kc wo.heap.size (fillB dB ld (ld + 64)) hb04 hbs (.inr ⟨_, _, rfl, hat4⟩) hksz hkc4 (hrow.later hb4)
                  generalize fillB dB ld (ld + 64) = BK at *
                  have HK4 := hide (And.intro hb04 (And.intro (hrow.later hb4) (And.intro hBK (And.intro hBK2 hBKb))))
                  clear hb4 hb04 hat4 hs4 hBK hBK2 hBKb hrow hb3
                  go_wp2_with fail
                  refine hav.mono ?_
                  clear hav hconv
                  rintro e w5 (⟨i', hF', g', cap', rfl, hR, hh, hR2⟩ | ⟨hM, _⟩)
                  · obtain rfl : i' = j := hF'.unique ⟨hjn, hj, hnone⟩
                    obtain ⟨hb04, hrow4, hBK, hBK2, hBKb⟩ := HK4.out
                    have hVi := hVs i' hjn
                    have hb5 : Below w0.heap.size w0 w5 := hb04.trans (hh.below hb04.size hbs)
                    have hd5 := hd.later hb5
                    have hq := equal_any (some ⟨g', 0, none⟩) a3 ld cap' ld c3 (catB BK ld (strB (Vs i'))) dB w5 (hR.sl ld (by omega)) hd5
                    rw [show toStr (catB BK ld (strB (Vs i'))) ld = toStr dB ld from (toStr_inj (catB_byt hBKb (strB_byt _) _) hdB).2 ⟨rfl, fun j hj => by unfold catB; rw [if_pos hj]; exact hBK j hj⟩, beq_str, decide_eq_true rfl] at hq
                    have hcapl := hR.le
                    have hconv2 : (convert 23 9 (.slice (if cap' = ld then some ⟨g', 0, none⟩ else some ⟨g', ld, none⟩) (Vs i').size (cap' - ld))).run Ybaf.prog w5 = .ok (.string (Vs i')) w5 := by
                      have hsl : Sl w5 (if cap' = ld then some ⟨g', 0, none⟩ else some ⟨g', ld, none⟩) (Vs i').size (strB (Vs i')) := by
                        by_cases hc : cap' = ld
                        · exact .inl (by omega)
                        · rw [if_neg hc]
                          exact .inr ⟨g', ld, rfl, fun j hj => by rw [hR.at_ (ld + j) (by omega), Nat.zero_add]; unfold catB; rw [if_neg (by omega), Nat.add_sub_cancel_left]⟩
                      have := conv_any hsl (cap' - ld)
                      rwa [toStr_strB] at this
                    have hR2' : ∀ k, ld ≤ k → k < ld + 64 → ¬ (ld + (Vs i').size ≤ ld + 64 ∧ k < ld + (Vs i').size) → w5.cell? ⟨wo.heap.size, k, none⟩ = some (.int .u8 165) := fun k h1 h2 h3 => by
                      rw [hR2.at_ k h2, if_neg (fun hx => h3 ⟨hx.1, hx.2.2⟩), hBK2 k h1 h2]
                    have HB5 := hide hb5
                    have HR5 := hide hR2'
                    clear hR hh hR2 hb5 hd5 hb04 hrow4 hBK hBK2 hBKb HK4 hR2' hF' HA
                    generalize hve : (Vs i').size = vs at *
                    by_cases hcl : cap' = ld
                    · rw [if_pos hcl, hcl, Nat.sub_self] at hconv2
                      rw [hcl] at hq
                      by_cases h64 : vs ≤ 64
                      · have h64I : (ld : Int) + (vs : Int) ≤ (ld : Int) + 64 := by omega
                        go_wp2_with fail
                        refine hq.mono ?_
                        rintro e w6 ⟨rfl, rfl⟩
                        clear hq
                        go_wp2_with fail
                        go_loopw [24] (fun t w8 => ∃ k : Nat, ld + vs ≤ k ∧ k ≤ ld + 64 ∧ t = .int .i64 k ∧ w8 = w6) (fun t _ => ld + 64 - (intOf t).toNat)
                        case atStart => exact ⟨ld + vs, Nat.le_refl _, by omega, by go_num, rfl⟩
                        case round =>
                          obtain ⟨k, hk1, hk2, rfl, rfl⟩ := hrel
                          by_cases hk3 : k < ld + 64
                          · have hk3I : (k : Int) < (ld : Int) + 64 := by omega
                            have hck : wr.cell? ⟨wo.heap.size, k, none⟩ = some (.int .u8 165) := HR5.out k (by omega) hk3 (fun h => by omega)
                            go_wp2_with fail
                            go_roundw
                            case rel => exact ⟨k + 1, by omega, by omega, by go_num, trivial⟩
                            case measure => simp [intOf]; omega
                          · have hk4 : k = ld + 64 := by omega
                            subst hk4
                            have hk3I : decide (((ld + 64 : Nat) : Int) < (ld : Int) + 64) = false := by simp
                            go_wp2_with fail
                            go_roundw
                            case rel => exact ⟨i + 1, by omega, by go_num, HB5.out⟩
                            case measure => simp [intOf]; omega
                      · omega
                    · rw [if_neg hcl] at hconv2
                      by_cases h64 : vs ≤ 64
                      · have h64I : (ld : Int) + (vs : Int) ≤ (ld : Int) + 64 := by omega
                        go_wp2_with fail
                        refine hq.mono ?_
                        rintro e w6 ⟨rfl, rfl⟩
                        clear hq
                        go_wp2_with fail
                        go_loopw [24] (fun t w8 => ∃ k : Nat, ld + vs ≤ k ∧ k ≤ ld + 64 ∧ t = .int .i64 k ∧ w8 = w6) (fun t _ => ld + 64 - (intOf t).toNat)
                        case atStart => exact ⟨ld + vs, Nat.le_refl _, by omega, by go_num, rfl⟩
                        case round =>
                          obtain ⟨k, hk1, hk2, rfl, rfl⟩ := hrel
                          by_cases hk3 : k < ld + 64
                          · have hk3I : (k : Int) < (ld : Int) + 64 := by omega
                            have hck : wr.cell? ⟨wo.heap.size, k, none⟩ = some (.int .u8 165) := HR5.out k (by omega) hk3 (fun h => by omega)
                            go_wp2_with fail
                            go_roundw
                            case rel => exact ⟨k + 1, by omega, by omega, by go_num, trivial⟩
                            case measure => simp [intOf]; omega
                          · have hk4 : k = ld + 64 := by omega
                            subst hk4
                            have hk3I : decide (((ld + 64 : Nat) : Int) < (ld : Int) + 64) = false := by simp
                            go_wp2_with fail
                            go_roundw
                            case rel => exact ⟨i + 1, by omega, by go_num, HB5.out⟩
                            case measure => simp [intOf]; omega
                      · have h64I : decide ((ld : Int) + (vs : Int) ≤ (ld : Int) + 64) = false := by simp; omega
                        go_wp2_with fail
                        refine hq.mono ?_
                        rintro e w6 ⟨rfl, rfl⟩
                        clear hq
                        go_wp2_with fail
                        go_loopw [24] (fun t w8 => ∃ k : Nat, ld ≤ k ∧ k ≤ ld + 64 ∧ t = .int .i64 k ∧ w8 = w6) (fun t _ => ld + 64 - (intOf t).toNat)
                        case atStart => exact ⟨ld, Nat.le_refl _, by omega, by go_num, rfl⟩
                        case round =>
                          obtain ⟨k, hk1, hk2, rfl, rfl⟩ := hrel
                          by_cases hk3 : k < ld + 64
                          · have hk3I : (k : Int) < (ld : Int) + 64 := by omega
                            have hck : wr.cell? ⟨wo.heap.size, k, none⟩ = some (.int .u8 165) := HR5.out k (by omega) hk3 (fun h => by omega)
                            go_wp2_with fail
                            go_roundw
                            case rel => exact ⟨k + 1, by omega, by omega, by go_num, trivial⟩
                            case measure => simp [intOf]; omega
                          · have hk4 : k = ld + 64 := by omega
                            subst hk4
                            have hk3I : decide (((ld + 64 : Nat) : Int) < (ld : Int) + 64) = false := by simp
                            go_wp2_with fail
                            go_roundw
                            case rel => exact ⟨i + 1, by omega, by go_num, HB5.out⟩
                            case measure => simp [intOf]; omega
                  · exact absurd hj (hM _ hjn)
            · have hbq : ((Ks j).toList == key.toList) = false := by rw [beq_str]; simp [hj]
              have hjl0 : j < l0 := by omega
              cases hka
              have HN := hide hnone
              clear hnone
              go_wp2_with fail
              go_roundw
              case rel => exact ⟨j + 1, by omega, by go_num, rfl, rfl, trivial, fun j' h => by
                by_cases e : j' = j
                · subst e; exact hj
                · exact HN.out j' (by omega)⟩
              case measure => simp [intOf]; omega
          · have hjn2 : j = n := by omega
            subst hjn2
            have hjnI : decide ((j : Int) < (j : Int)) = false := by simp
            obtain ⟨wo, rfl⟩ : ∃ wo : World, wo = wr := ⟨_, rfl⟩
            have hbW1 : Below w0.heap.size w0 (wo.alloc (.cells (madeCells #[.int .u8 0] (ld + 64)) 5)) := hbr.alloc hbr.size _
            obtain ⟨W2, hcp, hrow2, hh2, hs2⟩ := copy_dst (Row.made wo (ld + 64)) (hd.later hbW1) c3 3
            have hbW2 : Below w0.heap.size w0 W2 := hbW1.trans (hh2.below (by simp; exact Nat.le_succ_of_le hbr.size) hbr.size)
            have HR2 := hide (And.intro hrow2 hbW2)
            have hbs := hbr.size
            have HBR := hide hbr
            clear hh2 hrow2 hbW1 hbW2 hbr
            go_wp2_with fail
            clear hcp hmk
            go_loopw [19] (fun t w3 => ∃ k : Nat, ld ≤ k ∧ k ≤ ld + 64 ∧ t = .int .i64 k ∧ Row w3 wo.heap.size (ld + 64) (ld + 64) (fillB dB ld k) ∧ Below w0.heap.size w0 w3) (fun t _ => ld + 64 - (intOf t).toNat)
            case atStart => exact ⟨ld, Nat.le_refl _, by omega, rfl, HR2.out.1.congr (fun j hj => by unfold fillB; by_cases e : j < ld <;> simp [e]), HR2.out.2⟩
            case round =>
              obtain ⟨k, hk1, hk2, rfl, hrow, hb3⟩ := hrel
              by_cases hk3 : k < ld + 64
              · have hk3I : (k : Int) < (ld : Int) + 64 := by omega
                have hck := hrow.at_ k hk3
                have hcf := hrow.room.free k
                have HR3 := hide (And.intro hrow hb3)
                clear hrow hb3
                generalize fillB dB ld k k = v0 at *
                go_wp2_with fail
                go_roundw
                case rel =>
                  exact ⟨k + 1, by omega, by omega, by go_num, (HR3.out.1.setCell k hk3 165).congr (fun j hj => by
                    unfold fillB
                    by_cases e : j = k
                    · subst e; rw [if_pos rfl, if_neg (by omega), if_pos (by omega)]
                    · rw [if_neg e]
                      by_cases e1 : j < ld
                      · rw [if_pos e1, if_pos e1]
                      · rw [if_neg e1, if_neg e1]
                        by_cases e2 : j < k
                        · rw [if_pos e2, if_pos (by omega)]
                        · rw [if_neg e2, if_neg (by omega)]), HR3.out.2.setCell (p := ⟨wo.heap.size, k, none⟩) hbs _⟩
                case measure => simp [intOf]; omega
              · have hk4 : k = ld + 64 := by omega
                subst hk4
                have hk3I : decide (((ld + 64 : Nat) : Int) < (ld : Int) + 64) = false := by simp
                have hBK : ∀ j, j < ld → fillB dB ld (ld + 64) j = dB j := fun j hj => by unfold fillB; rw [if_pos hj]
                have hBK2 : ∀ j, ld ≤ j → j < ld + 64 → fillB dB ld (ld + 64) j = 165 := fun j h1 h2 => by unfold fillB; rw [if_neg (by omega), if_pos h2]
                have hBKb : Byt (fillB dB ld (ld + 64)) := fun j => by unfold fillB; have := hdB j; repeat' split; all_goals omega
                obtain ⟨kc, w4, hconv, hkc4, hb4, hs4, hat4⟩ := bytes_of wr key
                have hb04 := hb3.trans (hb4.mono hb3.size)
                have hav := HA.out w4 key (some ⟨wr.heap.size, 0, none⟩) kc wo.heap.size (fillB dB ld (ld + 64)) hb04 hbs (.inr ⟨_, _, rfl, hat4⟩) hksz hkc4 (hrow.later hb4)
                generalize fillB dB ld (ld + 64) = BK at *
                have HK4 := hide (And.intro hb04 (And.intro (hrow.later hb4) (And.intro hBK (And.intro hBK2 hBKb))))
                clear hb4 hb04 hat4 hs4 hBK hBK2 hBKb hrow hb3
                go_wp2_with fail
                refine hav.mono ?_
                clear hav hconv
                rintro e w5 (⟨i', hF', _⟩ | ⟨hM, rfl, hb5⟩)
                · exact absurd hF'.2.1 (hnone _ hF'.1)
                · obtain ⟨hb04, hrow4, hBK, hBK2, hBKb⟩ := HK4.out
                  have hrow5 := hrow4.later hb5
                  have hb05 := hb04.trans (hb5.mono hb04.size)
                  have hd5 := hd.later hb05
                  have hq := equal_any (some ⟨wo.heap.size, 0, none⟩) a3 ld (ld + 64) ld c3 BK dB w5 (hrow5.sl ld (by omega)) hd5
                  rw [show toStr BK ld = toStr dB ld from (toStr_inj hBKb hdB).2 ⟨rfl, fun j hj => hBK j hj⟩, beq_str, decide_eq_true rfl] at hq
                  have g15 := (hb05.cell (p := ⟨1, 0, none⟩) (World.block_lt_of_cell? w0 _ hg1)).trans hg1
                  have HB5 := hide hb05
                  have HR5 := hide (And.intro hrow5 hBK2)
                  clear hb04 hrow4 hBK hBK2 hBKb HK4 hb5 hb05 hrow5 hd5 HA
                  go_wp2_with fail
                  refine hq.mono ?_
                  rintro e w6 ⟨rfl, rfl⟩
                  clear hq
                  go_wp2_with fail
                  go_loopw [24] (fun t w8 => ∃ k : Nat, ld ≤ k ∧ k ≤ ld + 64 ∧ t = .int .i64 k ∧ w8 = w6) (fun t _ => ld + 64 - (intOf t).toNat)
                  case atStart => exact ⟨ld, Nat.le_refl _, by omega, by go_num, rfl⟩
                  case round =>
                    obtain ⟨k, hk1, hk2, rfl, rfl⟩ := hrel
                    by_cases hk3 : k < ld + 64
                    · have hk3I : (k : Int) < (ld : Int) + 64 := by omega
                      have hck : wr.cell? ⟨wo.heap.size, k, none⟩ = some (.int .u8 165) := by rw [HR5.out.1.at_ k hk3, HR5.out.2 k hk1 hk3]
                      go_wp2_with fail
                      go_roundw
                      case rel => exact ⟨k + 1, by omega, by omega, by go_num, trivial⟩
                      case measure => simp [intOf]; omega
                    · have hk4 : k = ld + 64 := by omega
                      subst hk4
                      have hk3I : decide (((ld + 64 : Nat) : Int) < (ld : Int) + 64) = false := by simp
                      go_wp2_with fail
                      go_roundw
                      case rel => exact ⟨i + 1, by omega, by go_num, HB5.out⟩
                      case measure => simp [intOf]; omega
        )
    · have hin : i = n + l2 := by omega
      subst hin
      have hltI : decide (((n + l2 : Nat) : Int) < (n : Int) + (l2 : Int)) = false := by simp
      go_wp2_with fail
      go_ret
      exact ⟨rfl, hbr⟩
end Go.Proofs.YbulkclmFmt
