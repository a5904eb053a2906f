import Derived.Test.YbulkclmFmtMapped
import Derived.Test.YbulkclmFmtHash
import Derived.Test.YbulkclmFmtLoop
namespace Go.Proofs.YbulkclmFmt
open Go.ChangeShapes Go.WideShapes Go.ChangeAt Go.RowKit
set_option linter.unusedVariables false

/-- What the file holds. -/
structure FileOK (B : Nat → Int) (N n : Nat) (Ks Vs : Nat → ByteArray) (H : Nat → Nat) (S : Nat → Nat → Option Nat) : Prop where
  byt : Byt B
  recs : ∀ i, i < n → RecOK B (posT Ks Vs n) (posT Ks Vs i) (Ks i) (Vs i)
  hdr : ∀ t, t < 256 → le32 B (8 * t) = (if cntT H n t = 0 then 0 else (tposT (posT Ks Vs n) (cntT H n) t : Int)) ∧ le32 B (8 * t + 4) = 2 * cntT H n t
  tabs : TabsOK B n H (posT Ks Vs) (cntT H n) (tposT (posT Ks Vs n) (cntT H n)) S
  size : N = tposT (posT Ks Vs n) (cntT H n) 256
  small : N ≤ 16777216
  few : n ≤ 512
  hash : ∀ i, i < n → (H i : Int) = hashTo (strB (Ks i)) (Ks i).size

/-- What the look-up reads. -/
structure Ctx (w : World) (D R g N cap : Nat) (B : Nat → Int) (tp tl : Nat → Nat) (data E : Value) (ka : Option Addr) (key : ByteArray) : Prop where
  db : DBAt w D R g N cap (fun t => tp t) (fun t => tl t) data
  file : Row w g cap N B
  ks : Sl w ka key.size (strB key)
  g1 : w.cell? ⟨1, 0, none⟩ = some E
  g3 : w.cell? ⟨3, 0, none⟩ = some (.int .u32 33)

theorem Ctx.later {w w' : World} {D R g N cap : Nat} {B : Nat → Int} {tp tl : Nat → Nat} {data E : Value} {ka : Option Addr} {key : ByteArray} (h : Ctx w D R g N cap B tp tl data E ka key) (hb : Below w.heap.size w w') : Ctx w' D R g N cap B tp tl data E ka key :=
  ⟨h.db.later hb, h.file.later hb, h.ks.later hb, (hb.cell (p := ⟨1, 0, none⟩) (World.block_lt_of_cell? w _ h.g1)).trans h.g1, (hb.cell (p := ⟨3, 0, none⟩) (World.block_lt_of_cell? w _ h.g3)).trans h.g3⟩

/-- What a slot and its record hold. -/
structure SlotOK (B : Nat → Int) (N : Nat) (at_ p hh : Nat) (K V : ByteArray) : Prop where
  a8 : at_ + 8 ≤ N
  h1 : le32 B at_ = hh
  h2 : le32 B (at_ + 4) = p
  p0 : 2048 ≤ p
  rec_ : RecOK B N p K V
  more : p + 8 + K.size + V.size < N
  hlt : hh < 4294967296

theorem Ctx.rp {w : World} {D R g N cap : Nat} {B : Nat → Int} {tp tl : Nat → Nat} {data E : Value} {ka : Option Addr} {key : ByteArray} (h : Ctx w D R g N cap B tp tl data E ka key) (hB : Byt B) (hN : N ≤ 16777216) (x : Int) (pos : Nat) (hx : x = pos) (hp : pos + 8 ≤ N) :
    Calls Ybaf.prog 35 #[.pointer (some ⟨D, 0, none⟩), .int .u64 x] w fun e w' => e = .returned (.tuple #[.int .u32 (le32 B pos), .int .u32 (le32 B (pos + 4)), .nilIface]) ∧ Below w.heap.size w w' := by
  subst hx
  exact readPair_any D R g N cap pos _ _ data B w h.db h.file hB hp (by omega)

theorem Ctx.ra {w : World} {D R g N cap : Nat} {B : Nat → Int} {tp tl : Nat → Nat} {data E : Value} {ka : Option Addr} {key : ByteArray} (h : Ctx w D R g N cap B tp tl data E ka key) (hN : N ≤ 16777216) (x y : Int) (pos m : Nat) (hx : x = pos) (hy : y = m) (hp : pos + m ≤ N) (hp' : pos < N) :
    Calls Ybaf.prog 36 #[.pointer (some ⟨D, 0, none⟩), .int .i64 x, .int .i64 y] w fun e w' => e = .returned (.tuple #[.slice (some ⟨w.heap.size, 0, none⟩) m m, .nilIface]) ∧ Below w.heap.size w w' ∧ Row w' w.heap.size m m (fun j => B (pos + j)) := by
  subst hx hy
  exact dbReadAt_any D R g N cap m pos _ _ data B w h.db h.file hp hp' (by omega)

theorem pairAt_nil' (x : Int) (p : Nat) (w : World) (hx : x = p) (hp : p ≤ 4294967296) :
    Calls Ybaf.prog 27 #[.slice none 0 0, .int .u64 x] w fun e w' => e = .returned (.tuple #[.int .u32 0, .int .u32 0, .bool false]) ∧ w' = w := by
  subst hx
  exact pairAt_nil p w hp
theorem view_nil' (x y : Int) (p n : Nat) (w : World) (hx : x = p) (hy : y = n) (hp : p ≤ 4294967296) (hp0 : 0 < p) (hn : n ≤ 4294967296) :
    Calls Ybaf.prog 28 #[.slice none 0 0, .int .u64 x, .int .u64 y] w fun e w' => e = .returned (.tuple #[.slice none 0 0, .bool false]) ∧ w' = w := by
  subst hx hy
  exact view_nil p n w hp hp0 hn

theorem probe_begun {w0 X : World} {P T : Nat} {oT : Obj} (nq hk' tpo L : Nat) (hb : Below w0.heap.size w0 X) (hP0 : w0.heap.size ≤ P) (hne : T ≠ P) (hT : X.heap[T]? = some oT)
    (hP : X.heap[P]? = some (.cells #[.bool false, .int .u32 0, .int .u32 0, .int .u32 0, .int .u32 0, .int .u32 0] 84 (0, 0))) (Y : World)
    (hY : Y = ((((X.drewN (nq + 1)).setCell ⟨P, 0, none⟩ (.bool true)).setCell ⟨P, 1, none⟩ (.int .u32 hk')).setCell ⟨P, 2, none⟩ (.int .u32 tpo)).setCell ⟨P, 3, none⟩ (.int .u32 L)) :
    Below w0.heap.size w0 Y ∧ Y.heap[T]? = some oT ∧ Y.heap[P]? = some (.cells #[.bool true, .int .u32 hk', .int .u32 tpo, .int .u32 L, .int .u32 0, .int .u32 0] 84 (0, 0)) := by
  have hb1 : Below w0.heap.size w0 (X.drewN (nq + 1)) := below_drewN _ hb
  have hT1 : (X.drewN (nq + 1)).heap[T]? = some oT := hT
  have hP1 : (X.drewN (nq + 1)).heap[P]? = some (.cells #[.bool false, .int .u32 0, .int .u32 0, .int .u32 0, .int .u32 0, .int .u32 0] 84 (0, 0)) := hP
  generalize X.drewN (nq + 1) = Z at *
  subst hY
  refine ⟨(((hb1.setCell (p := ⟨P, 0, none⟩) hP0 _).setCell (p := ⟨P, 1, none⟩) hP0 _).setCell (p := ⟨P, 2, none⟩) hP0 _).setCell (p := ⟨P, 3, none⟩) hP0 _, ?_, ?_⟩
  · rw [Below.heap_setCell _ _ _ _ hne, Below.heap_setCell _ _ _ _ hne, Below.heap_setCell _ _ _ _ hne, Below.heap_setCell _ _ _ _ hne]
    exact hT1
  · rw [Joins.block_setCell (Joins.block_setCell (Joins.block_setCell (Joins.block_setCell hP1 _) _) _)]; rfl

theorem rec_str {B : Nat → Int} {N p : Nat} {K V : ByteArray} (h : RecOK B N p K V) (hB : Byt B) : toStr (fun j => B (p + 8 + j)) K.size = K := by
  have e : toStr (fun j => B (p + 8 + j)) K.size = toStr (strB K) K.size := (toStr_inj (fun j => hB _) (strB_byt K)).2 ⟨rfl, fun j hj => h.kb j hj⟩
  rw [e, toStr_strB]

theorem found_end {w0 w9 : World} {P b m p N : Nat} {B : Nat → Int} {key V : ByteArray} (x y : Value) (hb : Below w0.heap.size w0 w9) (hP0 : w0.heap.size ≤ P) (hne : P ≠ b) (hr : Row w9 b m m (fun j => B (p + 8 + j))) (hm : m = key.size + V.size) (hrec : RecOK B N p key V) :
    Below w0.heap.size w0 ((w9.setCell ⟨P, 4, none⟩ x).setCell ⟨P, 5, none⟩ y) ∧ Sl ((w9.setCell ⟨P, 4, none⟩ x).setCell ⟨P, 5, none⟩ y) (some ⟨b, key.size, none⟩) V.size (strB V) := by
  refine ⟨(hb.setCell (p := ⟨P, 4, none⟩) hP0 _).setCell (p := ⟨P, 5, none⟩) hP0 _, .inr ⟨_, _, rfl, fun j hj => ?_⟩⟩
  have h1 := Hole.setCell P w9.heap.size 4 w9 x
  have r1 := hr.hole h1 hr.room.lt (fun e => hne e.symm)
  have h2 := Hole.setCell P (w9.setCell ⟨P, 4, none⟩ x).heap.size 5 (w9.setCell ⟨P, 4, none⟩ x) y
  have r2 := r1.hole h2 r1.room.lt (fun e => hne e.symm)
  have := r2.at_ (key.size + j) (by omega)
  rw [this, Nat.zero_add, ← hrec.vb j hj, Nat.add_assoc (p + 8)]

set_option maxRecDepth 100000 in
set_option maxHeartbeats 16000000 in
theorem next_any (D R g N cap P : Nat) (B : Nat → Int) (tp tl : Nat → Nat) (it : Nat) (E : Value) (ka : Option Addr) (kc : Nat) (key : ByteArray) (w0 w : World) (hC : Ctx w0 D R g N cap B tp tl (.slice none 0 0) (.iface it E) ka key) (hb0 : Below w0.heap.size w0 w) (hP0 : w0.heap.size ≤ P)
    (hP : w.heap[P]? = some (.cells #[.bool false, .int .u32 0, .int .u32 0, .int .u32 0, .int .u32 0, .int .u32 0] 84 (0, 0))) (hk : key.size ≤ 1048576) (hkc : key.size ≤ kc) (hB : Byt B)
    (t L tpo home dstop : Nat) (ht : t = hashN key % 256) (hLe : L = tl t) (htpe : tpo = tp t) (hhome : home = hashN key / 256 % L) (htl : L ≠ 0) (hL : L ≤ 1024) (htp : tpo ≤ 16777216) (hend : tpo + L * 8 ≤ N) (hN : N ≤ 16777216) (hds : dstop < L)
    (hbefore : ∀ d, d < dstop → ∃ p hh K V, SlotOK B N (tpo + (home + d) % L * 8) p hh K V ∧ K ≠ key)
    (V : ByteArray) (found : Bool) (hstop : if found then ∃ p, SlotOK B N (tpo + (home + dstop) % L * 8) p (hashN key) key V else le32 B (tpo + (home + dstop) % L * 8 + 4) = 0) :
    Calls Ybaf.prog 30 #[.pointer (some ⟨D, 0, none⟩), .pointer (some ⟨P, 0, none⟩), .slice ka key.size kc] w fun e w' => Below w0.heap.size w0 w' ∧
      (if found then ∃ a cp, e = .returned (.tuple #[.slice a V.size cp, .nilIface]) ∧ V.size ≤ cp ∧ Sl w' a V.size (strB V) else e = .returned (.tuple #[.slice none 0 0, .iface it E])) := by
  have p0 : w.cell? ⟨P, 0, none⟩ = some (.bool false) := by rw [Joins.cell_of_block hP]; rfl
  have p1 : w.cell? ⟨P, 1, none⟩ = some (.int .u32 0) := by rw [Joins.cell_of_block hP]; rfl
  have p2 : w.cell? ⟨P, 2, none⟩ = some (.int .u32 0) := by rw [Joins.cell_of_block hP]; rfl
  have p3 : w.cell? ⟨P, 3, none⟩ = some (.int .u32 0) := by rw [Joins.cell_of_block hP]; rfl
  have p4 : w.cell? ⟨P, 4, none⟩ = some (.int .u32 0) := by rw [Joins.cell_of_block hP]; rfl
  have p5 : w.cell? ⟨P, 5, none⟩ = some (.int .u32 0) := by rw [Joins.cell_of_block hP]; rfl
  have pf := fun j => Joins.unfrozen_of_block hP j
  have lP : P < w.heap.size := (Array.getElem?_eq_some_iff.1 hP).1
  have hcall1 := mapped_any D R g N cap _ _ none 0 0 w (hC.later hb0).db
  have HC := hide hC
  have HB0 := hide hb0
  have HF := hide (And.intro hbefore hstop)
  clear hC hb0 hbefore hstop
  go_enter Ybaf.func30, Ybaf.ntmps30
  go_wp2_with fail
  refine hcall1.mono ?_
  rintro e w1 ⟨rfl, rfl⟩
  clear hcall1
  go_wp2_with fail
  go_region
  go_wp2_with fail
  obtain ⟨W, hW⟩ : ∃ W, W = (w1.alloc (.cells #[.int .u32 0, .int .u32 0] 41)).drew := ⟨_, rfl⟩
  rw [← hW]
  have hbW : Below w1.heap.size w1 W := by rw [hW]; exact ((Below.refl _ _).alloc (Nat.le_refl _) _).drew
  have hT : W.heap[w1.heap.size]? = some (.cells #[.int .u32 0, .int .u32 0] 41 (0, 0)) := by rw [hW]; exact heap_alloc_new w1 _
  clear hW
  have hb0W : Below w0.heap.size w0 W := HB0.out.trans (hbW.mono HB0.out.size)
  have hCW := HC.out.later hb0W
  have hPW : W.heap[P]? = some (.cells #[.bool false, .int .u32 0, .int .u32 0, .int .u32 0, .int .u32 0, .int .u32 0] 84 (0, 0)) := (hbW.block P lP).trans hP
  have hcall2 := hash_any ka key.size kc (strB key) W (strB_byt key) (by omega) hCW.g3 hCW.ks
  rw [hashN_eq] at hcall2
  have hlt := hashN_lt key
  have htI : ((hashN key : Int) % 256) = (t : Int) := by omega
  have ht256 : t < 256 := by omega
  obtain ⟨tc0, tc1⟩ := hCW.db.tb t ht256
  simp only [← hLe, ← htpe] at tc0 tc1
  have dsz := hCW.db.c1
  have q0 : W.cell? ⟨w1.heap.size, 0, none⟩ = some (.int .u32 0) := by rw [Joins.cell_of_block hT]; rfl
  have q1 : W.cell? ⟨w1.heap.size, 1, none⟩ = some (.int .u32 0) := by rw [Joins.cell_of_block hT]; rfl
  have qf := fun j => Joins.unfrozen_of_block hT j
  have lT : w1.heap.size < W.heap.size := (Array.getElem?_eq_some_iff.1 hT).1
  have lD : D < W.heap.size := World.block_lt_of_cell? W _ dsz
  have dT : D ≠ w1.heap.size := by
    have := World.block_lt_of_cell? w0 _ HC.out.db.c1
    have := HB0.out.size
    simp at *; omega
  have HX := hide (And.intro hb0W (And.intro hT hPW))
  have HT := hide (And.intro ht hhome)
  clear hbW hT hCW hPW ht hhome p0 p1 p2 p3 p4 p5 pf hP hb0W hLe htpe
  generalize hashN key = hk' at *
  refine hcall2.mono ?_
  rintro e w2 ⟨rfl, rfl⟩
  clear hcall2
  go_wp2_with fail
  as_aux_lemma =>
    obtain ⟨X, hX⟩ : ∃ X, X = (w2.setCell ⟨w1.heap.size, 0, none⟩ (.int .u32 tpo)).setCell ⟨w1.heap.size, 1, none⟩ (.int .u32 L) := ⟨_, rfl⟩
    rw [← hX]
    obtain ⟨hb0W, hT, hPW⟩ := HX.out
    have hs0 := HB0.out.size
    have hb0X : Below w0.heap.size w0 X := by rw [hX]; exact (hb0W.setCell (p := ⟨w1.heap.size, 0, none⟩) hs0 _).setCell (p := ⟨w1.heap.size, 1, none⟩) hs0 _
    have hTX : X.heap[w1.heap.size]? = some (.cells #[.int .u32 tpo, .int .u32 L] 41 (0, 0)) := by
      rw [hX, Joins.block_setCell (Joins.block_setCell hT _)]; rfl
    have hPX : X.heap[P]? = some (.cells #[.bool false, .int .u32 0, .int .u32 0, .int .u32 0, .int .u32 0, .int .u32 0] 84 (0, 0)) := by
      rw [hX, Below.heap_setCell _ _ _ _ (by show P ≠ w1.heap.size; omega), Below.heap_setCell _ _ _ _ (by show P ≠ w1.heap.size; omega)]; exact hPW
    clear hX hb0W hT hPW HX tc0 tc1 dsz q0 q1 qf lD dT
    have t0 : X.cell? ⟨w1.heap.size, 0, none⟩ = some (.int .u32 tpo) := by rw [Joins.cell_of_block hTX]; rfl
    have t1 : X.cell? ⟨w1.heap.size, 1, none⟩ = some (.int .u32 L) := by rw [Joins.cell_of_block hTX]; rfl
    have p0 : X.cell? ⟨P, 0, none⟩ = some (.bool false) := by rw [Joins.cell_of_block hPX]; rfl
    have p1 : X.cell? ⟨P, 1, none⟩ = some (.int .u32 0) := by rw [Joins.cell_of_block hPX]; rfl
    have p2 : X.cell? ⟨P, 2, none⟩ = some (.int .u32 0) := by rw [Joins.cell_of_block hPX]; rfl
    have p3 : X.cell? ⟨P, 3, none⟩ = some (.int .u32 0) := by rw [Joins.cell_of_block hPX]; rfl
    have pf := fun j => Joins.unfrozen_of_block hPX j
    have dPT : P ≠ w1.heap.size := by omega
    have HX := hide (And.intro hb0X (And.intro hTX hPX))
    clear hb0X hTX hPX
    go_quiet (fail)
    go_wp2_with fail
    go_region
    go_wp2_with fail
    obtain ⟨Y, hY⟩ : ∃ Y, Y = ((((X.drewN (nq + 1)).setCell ⟨P, 0, none⟩ (.bool true)).setCell ⟨P, 1, none⟩ (.int .u32 hk')).setCell ⟨P, 2, none⟩ (.int .u32 tpo)).setCell ⟨P, 3, none⟩ (.int .u32 L) := ⟨_, rfl⟩
    obtain ⟨hb0X, hTX, hPX⟩ := HX.out
    obtain ⟨hb0Y, hTY, hPY⟩ := probe_begun nq hk' tpo L hb0X hP0 (by omega) hTX hPX Y hY
    have hkeep : ∀ w' : World, Below Y.heap.size Y w' → w'.cell? ⟨w1.heap.size, 0, none⟩ = some (.int .u32 tpo) ∧ w'.cell? ⟨w1.heap.size, 1, none⟩ = some (.int .u32 L) ∧ w'.cell? ⟨D, 1, none⟩ = some (.int .i64 N) ∧ Ctx w' D R g N cap B tp tl (.slice none 0 0) (.iface it E) ka key ∧
        w'.cell? ⟨P, 4, none⟩ = some (.int .u32 0) ∧ w'.cell? ⟨P, 5, none⟩ = some (.int .u32 0) ∧ (∀ j, w'.frozen? ⟨P, j, none⟩ = false) ∧ Below w0.heap.size w0 w' := fun w' hb => by
      have hT' := (hb.block _ (Array.getElem?_eq_some_iff.1 hTY).1).trans hTY
      have hP' := (hb.block _ (Array.getElem?_eq_some_iff.1 hPY).1).trans hPY
      have hb' := hb0Y.trans (hb.mono hb0Y.size)
      have hc := HC.out.later hb'
      exact ⟨by rw [Joins.cell_of_block hT']; rfl, by rw [Joins.cell_of_block hT']; rfl, hc.db.c1, hc, by rw [Joins.cell_of_block hP']; rfl, by rw [Joins.cell_of_block hP']; rfl, fun j => Joins.unfrozen_of_block hP' j, hb'⟩
    have HK := hide hkeep
    have hhome : home < L := by rw [HT.out.2]; exact Nat.mod_lt _ (by omega)
    have HY := hide hY
    have HP0 := hide hP0
    clear hkeep hY hb0X hTX hPX hb0Y hTY hPY HX t0 t1 p0 p1 p2 p3 pf HB0 HC lT hs0 dPT lP hP0
    as_aux_lemma =>
      refine wp_loop_slots 244 (fun f wr => f 0 = .pointer (some ⟨D, 0, none⟩) ∧ f 1 = .pointer (some ⟨P, 0, none⟩) ∧ f 2 = .slice ka key.size kc ∧ f 8 = .slice none 0 0 ∧ f 9 = .int .u32 hk' ∧ f 10 = .pointer (some ⟨w1.heap.size, 0, none⟩) ∧
          ∃ d sl lf : Nat, d ≤ dstop ∧ sl = (home + d) % L ∧ lf = L - d ∧ f 11 = .int .u32 sl ∧ f 12 = .int .u32 lf ∧ Below Y.heap.size Y wr) (fun f => (intOf (f 12)).toNat) rfl rfl ?start ?round
      case start =>
        refine ⟨rfl, rfl, rfl, rfl, rfl, rfl, 0, home, L, Nat.zero_le _, by rw [Nat.add_zero, Nat.mod_eq_of_lt hhome], rfl, ?_, rfl, by rw [← HY.out]; exact Below.refl _ _⟩
        have e : ((home : Nat) : Int) = (hk' : Int) / 256 % (L : Int) := by rw [HT.out.2]; simp
        rw [e]
        rfl
      case round =>
        as_aux_lemma =>
          rintro f wr ⟨hf0, hf1, hf2, hf8, hf9, hf10, d, sl, lf, hd, hsle, hlfe, hf11, hf12, hbr⟩
          have hfr : ({ tmps := ((List.range 244).map f).toArray, defers := [] } : Act) = { tmps := #[.pointer (some ⟨D, 0, none⟩), .pointer (some ⟨P, 0, none⟩), .slice ka key.size kc, f 3, f 4, f 5, f 6, f 7, .slice none 0 0, .int .u32 hk', .pointer (some ⟨w1.heap.size, 0, none⟩), .int .u32 sl, .int .u32 lf, f 13, f 14, f 15, f 16, f 17, f 18, f 19, f 20, f 21, f 22, f 23, f 24, f 25, f 26, f 27, f 28, f 29, f 30, f 31, f 32, f 33, f 34, f 35, f 36, f 37, f 38, f 39, f 40, f 41, f 42, f 43, f 44, f 45, f 46, f 47, f 48, f 49, f 50, f 51, f 52, f 53, f 54, f 55, f 56, f 57, f 58, f 59, f 60, f 61, f 62, f 63, f 64, f 65, f 66, f 67, f 68, f 69, f 70, f 71, f 72, f 73, f 74, f 75, f 76, f 77, f 78, f 79, f 80, f 81, f 82, f 83, f 84, f 85, f 86, f 87, f 88, f 89, f 90, f 91, f 92, f 93, f 94, f 95, f 96, f 97, f 98, f 99, f 100, f 101, f 102, f 103, f 104, f 105, f 106, f 107, f 108, f 109, f 110, f 111, f 112, f 113, f 114, f 115, f 116, f 117, f 118, f 119, f 120, f 121, f 122, f 123, f 124, f 125, f 126, f 127, f 128, f 129, f 130, f 131, f 132, f 133, f 134, f 135, f 136, f 137, f 138, f 139, f 140, f 141, f 142, f 143, f 144, f 145, f 146, f 147, f 148, f 149, f 150, f 151, f 152, f 153, f 154, f 155, f 156, f 157, f 158, f 159, f 160, f 161, f 162, f 163, f 164, f 165, f 166, f 167, f 168, f 169, f 170, f 171, f 172, f 173, f 174, f 175, f 176, f 177, f 178, f 179, f 180, f 181, f 182, f 183, f 184, f 185, f 186, f 187, f 188, f 189, f 190, f 191, f 192, f 193, f 194, f 195, f 196, f 197, f 198, f 199, f 200, f 201, f 202, f 203, f 204, f 205, f 206, f 207, f 208, f 209, f 210, f 211, f 212, f 213, f 214, f 215, f 216, f 217, f 218, f 219, f 220, f 221, f 222, f 223, f 224, f 225, f 226, f 227, f 228, f 229, f 230, f 231, f 232, f 233, f 234, f 235, f 236, f 237, f 238, f 239, f 240, f 241, f 242, f 243], defers := [] } := by
            have e : ((List.range 244).map f).toArray = #[f 0, f 1, f 2, f 3, f 4, f 5, f 6, f 7, f 8, f 9, f 10, f 11, f 12, f 13, f 14, f 15, f 16, f 17, f 18, f 19, f 20, f 21, f 22, f 23, f 24, f 25, f 26, f 27, f 28, f 29, f 30, f 31, f 32, f 33, f 34, f 35, f 36, f 37, f 38, f 39, f 40, f 41, f 42, f 43, f 44, f 45, f 46, f 47, f 48, f 49, f 50, f 51, f 52, f 53, f 54, f 55, f 56, f 57, f 58, f 59, f 60, f 61, f 62, f 63, f 64, f 65, f 66, f 67, f 68, f 69, f 70, f 71, f 72, f 73, f 74, f 75, f 76, f 77, f 78, f 79, f 80, f 81, f 82, f 83, f 84, f 85, f 86, f 87, f 88, f 89, f 90, f 91, f 92, f 93, f 94, f 95, f 96, f 97, f 98, f 99, f 100, f 101, f 102, f 103, f 104, f 105, f 106, f 107, f 108, f 109, f 110, f 111, f 112, f 113, f 114, f 115, f 116, f 117, f 118, f 119, f 120, f 121, f 122, f 123, f 124, f 125, f 126, f 127, f 128, f 129, f 130, f 131, f 132, f 133, f 134, f 135, f 136, f 137, f 138, f 139, f 140, f 141, f 142, f 143, f 144, f 145, f 146, f 147, f 148, f 149, f 150, f 151, f 152, f 153, f 154, f 155, f 156, f 157, f 158, f 159, f 160, f 161, f 162, f 163, f 164, f 165, f 166, f 167, f 168, f 169, f 170, f 171, f 172, f 173, f 174, f 175, f 176, f 177, f 178, f 179, f 180, f 181, f 182, f 183, f 184, f 185, f 186, f 187, f 188, f 189, f 190, f 191, f 192, f 193, f 194, f 195, f 196, f 197, f 198, f 199, f 200, f 201, f 202, f 203, f 204, f 205, f 206, f 207, f 208, f 209, f 210, f 211, f 212, f 213, f 214, f 215, f 216, f 217, f 218, f 219, f 220, f 221, f 222, f 223, f 224, f 225, f 226, f 227, f 228, f 229, f 230, f 231, f 232, f 233, f 234, f 235, f 236, f 237, f 238, f 239, f 240, f 241, f 242, f 243] := rfl
            rw [e, hf0, hf1, hf2, hf8, hf9, hf10, hf11, hf12]
          rw [hfr]
          have HF12 := hide hf12
          clear hfr hf0 hf1 hf2 hf8 hf9 hf10 hf11 hf12
          have hsl : sl < L := by rw [hsle]; exact Nat.mod_lt _ (by omega)
          have hnx := slot_next hsl home d hsle
          have hat8 : tpo + sl * 8 + 8 ≤ N := by omega
          obtain ⟨hbefore, hstop⟩ := HF.out
          have hB2 := hbefore d
          rw [← hsle] at hB2
          obtain ⟨t0, t1, dsz, ctx, p4, p5, pf, hb0r⟩ := HK.out _ hbr
          have hlf : 0 < lf := by omega
          have hlfL : lf ≤ L := by omega
          have HL := hide (And.intro hsle (And.intro hlfe (And.intro hd hnx)))
          have hcA := pairAt_nil' ((tpo : Int) + (sl : Int) * 8) (tpo + sl * 8) wr (by omega) (by omega)
          have hcB := ctx.rp hB hN ((tpo : Int) + (sl : Int) * 8) (tpo + sl * 8) (by omega) hat8
          by_cases hds2 : d < dstop
          · as_aux_lemma =>
              obtain ⟨p, hh, K, V', sok, hne⟩ := hB2 hds2
              rw [sok.h1, sok.h2] at hcB
              have hp0 := sok.p0
              have hpm := sok.more
              have hhlt := sok.hlt
              have hpI : ((p : Int) == 0) = false := by simp; omega
              have HS := hide (And.intro sok hne)
              clear hB2 sok hne hstop hat8 p4 p5 pf ctx hbefore hnx hsle hlfe hd hb0r
              have HD := hide hds2
              clear hds2
              go_wp2_with fail
              refine hcA.mono ?_
              rintro e w3 ⟨rfl, rfl⟩
              clear hcA
              go_wp2_with fail
              refine hcB.mono ?_
              rintro e w4 ⟨rfl, hb4⟩
              clear hcB t0 t1 dsz
              have hb4Y := hbr.trans (hb4.mono hbr.size)
              obtain ⟨t0, t1, dsz, ctx, p4, p5, pf, hb0r⟩ := HK.out _ hb4Y
              have HB4 := hide hb4Y
              clear hbr hb4 hb4Y p4 p5 pf hb0r
              as_aux_lemma =>
                by_cases hhe : hh = hk'
                · subst hhe
                  have hcC := pairAt_nil' (p : Int) p w4 rfl (by omega)
                  have hcD := ctx.rp hB hN (p : Int) p rfl (by omega)
                  rw [HS.out.1.rec_.kl, HS.out.1.rec_.vl] at hcD
                  by_cases hkl : K.size = key.size
                  · rw [hkl] at hcD hpm
                    have hrs := rec_str HS.out.1.rec_ hB
                    rw [hkl] at hrs
                    have hKne := HS.out.2
                    by_cases hwr : sl + 1 = L
                    · as_aux_lemma =>
                        have hwrI : (((sl : Int) + 1) == (L : Int)) = true := by simp; omega
                        clear ctx
                        go_wp2_with fail
                        refine hcC.mono ?_
                        rintro e w5 ⟨rfl, rfl⟩
                        clear hcC
                        go_wp2_with fail
                        refine hcD.mono ?_
                        rintro e w6 ⟨rfl, hb6⟩
                        clear hcD t0 t1 dsz
                        have hb6Y := HB4.out.trans (hb6.mono HB4.out.size)
                        obtain ⟨t0, t1, dsz, ctx, p4, p5, pf, hb0r⟩ := HK.out _ hb6Y
                        have hcF := view_nil' ((p : Int) + 8) ((key.size : Int) + (V'.size : Int)) (p + 8) (key.size + V'.size) w6 (by omega) (by omega) (by omega) (by omega) (by omega)
                        have hcE := ctx.ra hN ((p : Int) + 8) ((key.size : Int) + (V'.size : Int)) (p + 8) (key.size + V'.size) (by omega) (by omega) (by omega) (by omega)
                        have HB6 := hide hb6Y
                        clear hb6 hb6Y ctx p4 p5 pf hb0r
                        go_wp2_with fail
                        refine hcF.mono ?_
                        rintro e w7 ⟨rfl, rfl⟩
                        clear hcF
                        go_wp2_with fail
                        refine hcE.mono ?_
                        rintro e w8 ⟨rfl, hb8, hrow8⟩
                        clear hcE t0 t1 dsz
                        have hb8Y := HB6.out.trans (hb8.mono HB6.out.size)
                        obtain ⟨t0, t1, dsz, ctx, p4, p5, pf, hb0r⟩ := HK.out _ hb8Y
                        have hcG := equal_any (some ⟨w7.heap.size, 0, none⟩) ka key.size (key.size + V'.size) key.size kc (fun j => B (p + 8 + j)) (strB key) w8 (.inr ⟨_, _, rfl, fun j hj => by simp only [Nat.zero_add]; exact hrow8.at_ j (by omega)⟩) ctx.ks
                        rw [toStr_strB, beq_str] at hcG
                        rw [hrs, decide_eq_false hKne] at hcG
                        have HB8 := hide hb8Y
                        clear hb8 hrow8 hb8Y ctx p4 p5 pf hb0r hrs hKne
                        go_wp2_with fail
                        refine hcG.mono ?_
                        rintro e w9 ⟨rfl, rfl⟩
                        clear hcG
                        go_wp2_with fail
                        refine ⟨⟨by first | trivial | rfl, by first | trivial | rfl, by first | trivial | rfl, by first | trivial | rfl, by first | trivial | rfl, by first | trivial | rfl, by first | trivial | rfl, by first | trivial | rfl, d + 1, 0, lf - 1, by have := HD.out; omega, by have := HL.out.2.2.2; rw [if_pos hwr] at this; exact this, by have := HL.out.2.1; omega, rfl, congrArg (Value.int .u32) (by omega), HB8.out⟩, ?_⟩
                        rw [HF12.out]
                        show ((lf : Int) - 1).toNat < ((lf : Int)).toNat
                        omega
                    · as_aux_lemma =>
                        have hwrI : (((sl : Int) + 1) == (L : Int)) = false := by simp; omega
                        clear ctx
                        go_wp2_with fail
                        refine hcC.mono ?_
                        rintro e w5 ⟨rfl, rfl⟩
                        clear hcC
                        go_wp2_with fail
                        refine hcD.mono ?_
                        rintro e w6 ⟨rfl, hb6⟩
                        clear hcD t0 t1 dsz
                        have hb6Y := HB4.out.trans (hb6.mono HB4.out.size)
                        obtain ⟨t0, t1, dsz, ctx, p4, p5, pf, hb0r⟩ := HK.out _ hb6Y
                        have hcF := view_nil' ((p : Int) + 8) ((key.size : Int) + (V'.size : Int)) (p + 8) (key.size + V'.size) w6 (by omega) (by omega) (by omega) (by omega) (by omega)
                        have hcE := ctx.ra hN ((p : Int) + 8) ((key.size : Int) + (V'.size : Int)) (p + 8) (key.size + V'.size) (by omega) (by omega) (by omega) (by omega)
                        have HB6 := hide hb6Y
                        clear hb6 hb6Y ctx p4 p5 pf hb0r
                        go_wp2_with fail
                        refine hcF.mono ?_
                        rintro e w7 ⟨rfl, rfl⟩
                        clear hcF
                        go_wp2_with fail
                        refine hcE.mono ?_
                        rintro e w8 ⟨rfl, hb8, hrow8⟩
                        clear hcE t0 t1 dsz
                        have hb8Y := HB6.out.trans (hb8.mono HB6.out.size)
                        obtain ⟨t0, t1, dsz, ctx, p4, p5, pf, hb0r⟩ := HK.out _ hb8Y
                        have hcG := equal_any (some ⟨w7.heap.size, 0, none⟩) ka key.size (key.size + V'.size) key.size kc (fun j => B (p + 8 + j)) (strB key) w8 (.inr ⟨_, _, rfl, fun j hj => by simp only [Nat.zero_add]; exact hrow8.at_ j (by omega)⟩) ctx.ks
                        rw [toStr_strB, beq_str] at hcG
                        rw [hrs, decide_eq_false hKne] at hcG
                        have HB8 := hide hb8Y
                        clear hb8 hrow8 hb8Y ctx p4 p5 pf hb0r hrs hKne
                        go_wp2_with fail
                        refine hcG.mono ?_
                        rintro e w9 ⟨rfl, rfl⟩
                        clear hcG
                        go_wp2_with fail
                        refine ⟨⟨by first | trivial | rfl, by first | trivial | rfl, by first | trivial | rfl, by first | trivial | rfl, by first | trivial | rfl, by first | trivial | rfl, by first | trivial | rfl, by first | trivial | rfl, d + 1, sl + 1, lf - 1, by have := HD.out; omega, by have := HL.out.2.2.2; rw [if_neg hwr] at this; exact this, by have := HL.out.2.1; omega, rfl, congrArg (Value.int .u32) (by omega), HB8.out⟩, ?_⟩
                        rw [HF12.out]
                        show ((lf : Int) - 1).toNat < ((lf : Int)).toNat
                        omega
                  · have hklI : ((K.size : Int) != (key.size : Int)) = true := by simp; omega
                    by_cases hwr : sl + 1 = L
                    · as_aux_lemma =>
                        have hwrI : (((sl : Int) + 1) == (L : Int)) = true := by simp; omega
                        clear ctx
                        go_wp2_with fail
                        refine hcC.mono ?_
                        rintro e w5 ⟨rfl, rfl⟩
                        clear hcC
                        go_wp2_with fail
                        refine hcD.mono ?_
                        rintro e w6 ⟨rfl, hb6⟩
                        clear hcD
                        have HB6 := hide (HB4.out.trans (hb6.mono HB4.out.size))
                        clear hb6
                        go_wp2_with fail
                        refine ⟨⟨by first | trivial | rfl, by first | trivial | rfl, by first | trivial | rfl, by first | trivial | rfl, by first | trivial | rfl, by first | trivial | rfl, by first | trivial | rfl, by first | trivial | rfl, d + 1, 0, lf - 1, by have := HD.out; omega, by have := HL.out.2.2.2; rw [if_pos hwr] at this; exact this, by have := HL.out.2.1; omega, rfl, congrArg (Value.int .u32) (by omega), HB6.out⟩, ?_⟩
                        rw [HF12.out]
                        show ((lf : Int) - 1).toNat < ((lf : Int)).toNat
                        omega
                    · as_aux_lemma =>
                        have hwrI : (((sl : Int) + 1) == (L : Int)) = false := by simp; omega
                        clear ctx
                        go_wp2_with fail
                        refine hcC.mono ?_
                        rintro e w5 ⟨rfl, rfl⟩
                        clear hcC
                        go_wp2_with fail
                        refine hcD.mono ?_
                        rintro e w6 ⟨rfl, hb6⟩
                        clear hcD
                        have HB6 := hide (HB4.out.trans (hb6.mono HB4.out.size))
                        clear hb6
                        go_wp2_with fail
                        refine ⟨⟨by first | trivial | rfl, by first | trivial | rfl, by first | trivial | rfl, by first | trivial | rfl, by first | trivial | rfl, by first | trivial | rfl, by first | trivial | rfl, by first | trivial | rfl, d + 1, sl + 1, lf - 1, by have := HD.out; omega, by have := HL.out.2.2.2; rw [if_neg hwr] at this; exact this, by have := HL.out.2.1; omega, rfl, congrArg (Value.int .u32) (by omega), HB6.out⟩, ?_⟩
                        rw [HF12.out]
                        show ((lf : Int) - 1).toNat < ((lf : Int)).toNat
                        omega
                · have hheI : ((hh : Int) != (hk' : Int)) = true := by simp; omega
                  by_cases hwr : sl + 1 = L
                  · as_aux_lemma =>
                      have hwrI : (((sl : Int) + 1) == (L : Int)) = true := by simp; omega
                      clear ctx
                      go_wp2_with fail
                      refine ⟨⟨by first | trivial | rfl, by first | trivial | rfl, by first | trivial | rfl, by first | trivial | rfl, by first | trivial | rfl, by first | trivial | rfl, by first | trivial | rfl, by first | trivial | rfl, d + 1, 0, lf - 1, by have := HD.out; omega, by have := HL.out.2.2.2; rw [if_pos hwr] at this; exact this, by have := HL.out.2.1; omega, rfl, congrArg (Value.int .u32) (by omega), HB4.out⟩, ?_⟩
                      rw [HF12.out]
                      show ((lf : Int) - 1).toNat < ((lf : Int)).toNat
                      omega
                  · as_aux_lemma =>
                      have hwrI : (((sl : Int) + 1) == (L : Int)) = false := by simp; omega
                      clear ctx
                      go_wp2_with fail
                      refine ⟨⟨by first | trivial | rfl, by first | trivial | rfl, by first | trivial | rfl, by first | trivial | rfl, by first | trivial | rfl, by first | trivial | rfl, by first | trivial | rfl, by first | trivial | rfl, d + 1, sl + 1, lf - 1, by have := HD.out; omega, by have := HL.out.2.2.2; rw [if_neg hwr] at this; exact this, by have := HL.out.2.1; omega, rfl, congrArg (Value.int .u32) (by omega), HB4.out⟩, ?_⟩
                      rw [HF12.out]
                      show ((lf : Int) - 1).toNat < ((lf : Int)).toNat
                      omega
          · as_aux_lemma =>
              have hde : d = dstop := by omega
              subst hde
              rw [← hsle] at hstop
              cases found with
              | false =>
                have hz : le32 B (tpo + sl * 8 + 4) = 0 := by simpa using hstop
                rw [hz] at hcB
                clear hB2 hstop hat8 p4 p5 pf ctx hbefore hnx hsle hlfe hd hb0r hz hds2
                generalize le32 B (tpo + sl * 8) = x0 at *
                go_wp2_with fail
                refine hcA.mono ?_
                rintro e w3 ⟨rfl, rfl⟩
                clear hcA
                go_wp2_with fail
                refine hcB.mono ?_
                rintro e w4 ⟨rfl, hb4⟩
                clear hcB t0 t1 dsz
                have hb4Y := hbr.trans (hb4.mono hbr.size)
                obtain ⟨t0, t1, dsz, ctx, p4, p5, pf, hb0r⟩ := HK.out _ hb4Y
                have g1 := ctx.g1
                have HB4 := hide hb0r
                clear hbr hb4 hb4Y p4 p5 pf hb0r ctx t0 t1 dsz
                go_wp2_with fail
                go_quiet (fail)
                go_wp2_with fail
                go_ret2
                exact ⟨below_drewN _ HB4.out, by simp⟩
              | true =>
                as_aux_lemma =>
                  obtain ⟨p, sok⟩ : ∃ p, SlotOK B N (tpo + sl * 8) p hk' key V := by simpa using hstop
                  rw [sok.h1, sok.h2] at hcB
                  have hp0 := sok.p0
                  have hpm := sok.more
                  have hpI : ((p : Int) == 0) = false := by simp; omega
                  have HS := hide sok
                  clear hB2 sok hstop hat8 p4 p5 pf ctx hbefore hnx hsle hlfe hd hb0r hds2
                  obtain ⟨V', hV'⟩ : ∃ V', V' = V := ⟨_, rfl⟩
                  rw [← hV'] at HS hpm
                  have HV := hide hV'
                  clear hV'
                  go_wp2_with fail
                  refine hcA.mono ?_
                  rintro e w3 ⟨rfl, rfl⟩
                  clear hcA
                  go_wp2_with fail
                  refine hcB.mono ?_
                  rintro e w4 ⟨rfl, hb4⟩
                  clear hcB t0 t1 dsz
                  have hb4Y := hbr.trans (hb4.mono hbr.size)
                  obtain ⟨t0, t1, dsz, ctx, p4, p5, pf, hb0r⟩ := HK.out _ hb4Y
                  have HB4 := hide hb4Y
                  clear hbr hb4 hb4Y p4 p5 pf hb0r
                  have hcC := pairAt_nil' (p : Int) p w4 rfl (by omega)
                  have hcD := ctx.rp hB hN (p : Int) p rfl (by omega)
                  rw [HS.out.rec_.kl, HS.out.rec_.vl] at hcD
                  have hrs := rec_str HS.out.rec_ hB
                  by_cases hwr : sl + 1 = L
                  · as_aux_lemma =>
                      have hwrI : (((sl : Int) + 1) == (L : Int)) = true := by simp; omega
                      clear ctx
                      go_wp2_with fail
                      refine hcC.mono ?_
                      rintro e w5 ⟨rfl, rfl⟩
                      clear hcC
                      go_wp2_with fail
                      refine hcD.mono ?_
                      rintro e w6 ⟨rfl, hb6⟩
                      clear hcD t0 t1 dsz
                      have hb6Y := HB4.out.trans (hb6.mono HB4.out.size)
                      obtain ⟨t0, t1, dsz, ctx, p4, p5, pf, hb0r⟩ := HK.out _ hb6Y
                      have hcF := view_nil' ((p : Int) + 8) ((key.size : Int) + (V'.size : Int)) (p + 8) (key.size + V'.size) w6 (by omega) (by omega) (by omega) (by omega) (by omega)
                      have hcE := ctx.ra hN ((p : Int) + 8) ((key.size : Int) + (V'.size : Int)) (p + 8) (key.size + V'.size) (by omega) (by omega) (by omega) (by omega)
                      have HB6 := hide hb6Y
                      clear hb6 hb6Y ctx p4 p5 pf hb0r
                      go_wp2_with fail
                      refine hcF.mono ?_
                      rintro e w7 ⟨rfl, rfl⟩
                      clear hcF
                      go_wp2_with fail
                      refine hcE.mono ?_
                      rintro e w8 ⟨rfl, hb8, hrow8⟩
                      clear hcE t0 t1 dsz
                      have hb8Y := HB6.out.trans (hb8.mono HB6.out.size)
                      obtain ⟨t0, t1, dsz, ctx, p4, p5, pf, hb0r⟩ := HK.out _ hb8Y
                      have hcG := equal_any (some ⟨w7.heap.size, 0, none⟩) ka key.size (key.size + V'.size) key.size kc (fun j => B (p + 8 + j)) (strB key) w8 (.inr ⟨_, _, rfl, fun j hj => by simp only [Nat.zero_add]; exact hrow8.at_ j (by omega)⟩) ctx.ks
                      rw [toStr_strB, beq_str] at hcG
                      rw [hrs, decide_eq_true rfl] at hcG
                      have pf4 := pf 4
                      have pf5 := pf 5
                      have HB8 := hide (And.intro hb0r hrow8)
                      have lP8 : w7.heap.size < w8.heap.size := hrow8.room.lt
                      have hPne : P ≠ w7.heap.size := by
                        have h1 := World.block_lt_of_cell? w7 _ (HK.out _ HB6.out).2.2.2.2.1
                        exact Nat.ne_of_lt h1
                      clear hb8 hb8Y ctx hb0r hrs hrow8 pf
                      by_cases hv0 : V'.size = 0
                      · have hmk : key.size + V'.size = key.size := by omega
                        rw [hmk] at hcG
                        go_wp2_with fail
                        refine hcG.mono ?_
                        rintro e w9 ⟨rfl, rfl⟩
                        clear hcG
                        go_wp2_with fail
                        go_ret2
                        obtain ⟨hb0r, hrow8⟩ := HB8.out
                        have hVV := HV.out
                        subst hVV
                        have hend := found_end (.int .u32 (0)) (.int .u32 ((lf : Int) - 1)) hb0r HP0.out hPne hrow8 rfl HS.out.rec_
                        exact ⟨hend.1, some ⟨w7.heap.size, 0, none⟩, 0, by rw [hv0]; rfl, by omega, .inl hv0⟩
                      · have hmk : ¬ key.size + V'.size = key.size := by omega
                        go_wp2_with fail
                        refine hcG.mono ?_
                        rintro e w9 ⟨rfl, rfl⟩
                        clear hcG
                        go_wp2_with fail
                        go_ret2
                        obtain ⟨hb0r, hrow8⟩ := HB8.out
                        have hVV := HV.out
                        subst hVV
                        have hend := found_end (.int .u32 (0)) (.int .u32 ((lf : Int) - 1)) hb0r HP0.out hPne hrow8 rfl HS.out.rec_
                        exact ⟨hend.1, some ⟨w7.heap.size, key.size, none⟩, _, rfl, Nat.le_refl _, hend.2⟩
                  · as_aux_lemma =>
                      have hwrI : (((sl : Int) + 1) == (L : Int)) = false := by simp; omega
                      clear ctx
                      go_wp2_with fail
                      refine hcC.mono ?_
                      rintro e w5 ⟨rfl, rfl⟩
                      clear hcC
                      go_wp2_with fail
                      refine hcD.mono ?_
                      rintro e w6 ⟨rfl, hb6⟩
                      clear hcD t0 t1 dsz
                      have hb6Y := HB4.out.trans (hb6.mono HB4.out.size)
                      obtain ⟨t0, t1, dsz, ctx, p4, p5, pf, hb0r⟩ := HK.out _ hb6Y
                      have hcF := view_nil' ((p : Int) + 8) ((key.size : Int) + (V'.size : Int)) (p + 8) (key.size + V'.size) w6 (by omega) (by omega) (by omega) (by omega) (by omega)
                      have hcE := ctx.ra hN ((p : Int) + 8) ((key.size : Int) + (V'.size : Int)) (p + 8) (key.size + V'.size) (by omega) (by omega) (by omega) (by omega)
                      have HB6 := hide hb6Y
                      clear hb6 hb6Y ctx p4 p5 pf hb0r
                      go_wp2_with fail
                      refine hcF.mono ?_
                      rintro e w7 ⟨rfl, rfl⟩
                      clear hcF
                      go_wp2_with fail
                      refine hcE.mono ?_
                      rintro e w8 ⟨rfl, hb8, hrow8⟩
                      clear hcE t0 t1 dsz
                      have hb8Y := HB6.out.trans (hb8.mono HB6.out.size)
                      obtain ⟨t0, t1, dsz, ctx, p4, p5, pf, hb0r⟩ := HK.out _ hb8Y
                      have hcG := equal_any (some ⟨w7.heap.size, 0, none⟩) ka key.size (key.size + V'.size) key.size kc (fun j => B (p + 8 + j)) (strB key) w8 (.inr ⟨_, _, rfl, fun j hj => by simp only [Nat.zero_add]; exact hrow8.at_ j (by omega)⟩) ctx.ks
                      rw [toStr_strB, beq_str] at hcG
                      rw [hrs, decide_eq_true rfl] at hcG
                      have pf4 := pf 4
                      have pf5 := pf 5
                      have HB8 := hide (And.intro hb0r hrow8)
                      have lP8 : w7.heap.size < w8.heap.size := hrow8.room.lt
                      have hPne : P ≠ w7.heap.size := by
                        have h1 := World.block_lt_of_cell? w7 _ (HK.out _ HB6.out).2.2.2.2.1
                        exact Nat.ne_of_lt h1
                      clear hb8 hb8Y ctx hb0r hrs hrow8 pf
                      by_cases hv0 : V'.size = 0
                      · have hmk : key.size + V'.size = key.size := by omega
                        rw [hmk] at hcG
                        go_wp2_with fail
                        refine hcG.mono ?_
                        rintro e w9 ⟨rfl, rfl⟩
                        clear hcG
                        go_wp2_with fail
                        go_ret2
                        obtain ⟨hb0r, hrow8⟩ := HB8.out
                        have hVV := HV.out
                        subst hVV
                        have hend := found_end (.int .u32 ((sl : Int) + 1)) (.int .u32 ((lf : Int) - 1)) hb0r HP0.out hPne hrow8 rfl HS.out.rec_
                        exact ⟨hend.1, some ⟨w7.heap.size, 0, none⟩, 0, by rw [hv0]; rfl, by omega, .inl hv0⟩
                      · have hmk : ¬ key.size + V'.size = key.size := by omega
                        go_wp2_with fail
                        refine hcG.mono ?_
                        rintro e w9 ⟨rfl, rfl⟩
                        clear hcG
                        go_wp2_with fail
                        go_ret2
                        obtain ⟨hb0r, hrow8⟩ := HB8.out
                        have hVV := HV.out
                        subst hVV
                        have hend := found_end (.int .u32 ((sl : Int) + 1)) (.int .u32 ((lf : Int) - 1)) hb0r HP0.out hPne hrow8 rfl HS.out.rec_
                        exact ⟨hend.1, some ⟨w7.heap.size, key.size, none⟩, _, rfl, Nat.le_refl _, hend.2⟩
end Go.Proofs.YbulkclmFmt
