import Derived.Test.YbulkcnqBuilt
import Derived.Deep.LoopGhost
import Derived.Deep.RegionHeld3
import Derived.Deep.DrawnRows
import Derived.BigRegion
namespace Go.Proofs.Ybulkcnq
open Go.ChangeShapes Go.WideShapes Go.ChangeAt Go.RowKit
set_option linter.unusedVariables false

/-- What 'append' comes to, as a function of the world. -/
def appOut (P : Program) (ts : Array TypeId) (ty : TypeId) (vs : Array Value) (w : World) : Value × World :=
  match (Builtin.append_ ts ty vs).run P w with
  | .ok u w' => (u, w')
  | _ => (undef, w)
def AppOk (P : Program) (ts : Array TypeId) (ty : TypeId) (vs : Array Value) (w : World) : Prop := ∃ u w', (Builtin.append_ ts ty vs).run P w = .ok u w'
theorem run_app (P : Program) (ts : Array TypeId) (ty : TypeId) (vs : Array Value) (w : World) (h : AppOk P ts ty vs w) : (Builtin.append_ ts ty vs).run P w = .ok (appOut P ts ty vs w).1 (appOut P ts ty vs w).2 := by
  obtain ⟨u, w', h⟩ := h
  unfold appOut
  rw [h]
theorem run_app_op (P : Program) (ρ : Operand → Value) (dst : Option Tmp) (xs : Array Operand) (ats : Array TypeId) (ty : TypeId) (pos : String) (after : Array Edge) (guard : Option (Nat × Bool)) (w : World) (h : AppOk P ats ty (xs.map ρ) w) :
    (execOp ρ { dst, op := .call { callee := .builtin .append, args := xs, argTypes := ats }, type := ty, pos, after, guard }).run P w = .ok (.value (appOut P ats ty (xs.map ρ) w).1) (appOut P ats ty (xs.map ρ) w).2 := by
  rw [BigFrame.execOp_builtin, BigFrame.builtin_append, Sem.run_bind, run_app P ats ty (xs.map ρ) w h]
  rfl
attribute [local go_sem ↓] run_app_op

theorem info28 : (Yba.prog.info? 28).map (fun i => (i.zero, i.size, i.bytes)) = some (some (.pointer none), 1, 8) := by kernel_rfl
theorem info3 : (Yba.prog.info? 3).map (fun i => (i.zero, i.size, i.bytes)) = some (some (.int .i64 0), 1, 8) := by kernel_rfl

/-- The nodes that came in. -/
structure Came (w : World) (b off n : Nat) (pp : Nat → Nat) (Q X : Nat → Int) : Prop where
  lt : b < w.heap.size
  c0 : ∀ j, j < n → w.cell? ⟨b, off + j * 3, none⟩ = some (.int .u16 (pp j)) ∧ pp j < 65536
  c1 : ∀ j, j < n → w.cell? ⟨b, off + j * 3 + 1, none⟩ = some (.int .i64 (Q j))
  c2 : ∀ j, j < n → w.cell? ⟨b, off + j * 3 + 2, none⟩ = some (.int .i64 (X j))

theorem modPar (pp : Nat → Nat) : ∀ j, 0 < j → (fun j => pp j % j) j < j := fun j hj => Nat.mod_lt _ hj

theorem NodeAt.laid (w : World) (cs : Array Value) (s q x : Int) (C : Value) (hs : cs.size = 19) (h1 : cs[1]? = some C) (h2 : cs[2]? = some (.int .i64 (-1))) (h8 : cs[8]? = some (.int .i64 s)) (h11 : cs[11]? = some (.int .i64 q)) (h12 : cs[12]? = some (.int .i64 x)) (H : Nat) (hH : H = w.heap.size) :
    NodeAt (w.alloc (.cells cs 35)) H C s q x := by
  subst hH
  exact ⟨cs, heap_alloc_new w _, hs, h1, h2, h8, h11, h12⟩

/-- The first node. -/
theorem Built.lay0 {w wr : World} {n : Nat} {nb : Nat → Nat} {C : Nat → Value} {par : Nat → Nat} {Q X : Nat → Int} (hp : ∀ j, 0 < j → par j < j) (h : Built w wr n 0 nb C par (kids par 0) Q X) (hk : 0 < n)
    (cs : Array Value) (hs : cs.size = 19) (h1 : cs[1]? = some (.slice none 0 0)) (h2 : cs[2]? = some (.int .i64 (-1))) (h8 : cs[8]? = some (.int .i64 0)) (h11 : cs[11]? = some (.int .i64 (Q 0))) (h12 : cs[12]? = some (.int .i64 (X 0))) :
    Built w ((((wr.setCell ⟨w.heap.size, 0, none⟩ (.pointer (some ⟨wr.heap.size, 0, none⟩))).setCell ⟨w.heap.size + 1, 0, none⟩ (.int .i64 (-1))).alloc (.cells cs 35))) n 1 (setAt nb 0 wr.heap.size) (setAt C 0 (.slice none 0 0)) par (kids par 0) Q X := by
  have hs2 : ((wr.setCell ⟨w.heap.size, 0, none⟩ (.pointer (some ⟨wr.heap.size, 0, none⟩))).setCell ⟨w.heap.size + 1, 0, none⟩ (.int .i64 (-1))).heap.size = wr.heap.size := by simp [World.setCell]
  have hwr := h.below.size
  refine h.add hp hk ?_ ?_ ?_ ?_ ?_ ?_
  · exact (((Below.refl _ _).setCell (by simp) _).setCell (by simp) _).alloc (by omega) _
  · show (World.alloc _ _).heap.size = _
    rw [World.size_alloc, hs2]
  · intro j h1 h2 h3
    by_cases hj : j < wr.heap.size
    · rw [Below.heap_alloc _ _ _ (by omega), Below.heap_setCell _ _ _ _ (by simpa using h2), Below.heap_setCell _ _ _ _ (by simpa using h1)]
    · rw [Array.getElem?_eq_none (by rw [World.size_alloc, hs2]; omega), Array.getElem?_eq_none (by omega)]
  · intro F hF
    exact ⟨_, ((hF.set 0 _).setOther (by simp) _).alloc _, by simp, fun j _ hne => by simp [hne]⟩
  · intro G hG
    exact ⟨_, ((hG.setOther (by simp) _).set 0 _).alloc _, by simp [parZ], fun j _ hne => by simp [hne]⟩
  · exact NodeAt.laid _ cs 0 (Q 0) (X 0) _ hs h1 h2 h8 h11 h12 _ (by rw [hs2])

/-- Every later node, its own parent and order already stored into it. -/
theorem Built.lay {w wr : World} {n k : Nat} {nb : Nat → Nat} {C : Nat → Value} {par : Nat → Nat} {Q X : Nat → Int} (hp : ∀ j, 0 < j → par j < j) (h : Built w wr n k nb C par (kids par k) Q X) (hk : k < n) (hk0 : 0 < k) (p : Nat) (hpp : par k = p)
    (cs : Array Value) (hs : cs.size = 19) (h1 : cs[1]? = some (.slice none 0 0)) (h2 : cs[2]? = some (.int .i64 (-1))) (h8 : cs[8]? = some (.int .i64 k)) (h11 : cs[11]? = some (.int .i64 (Q k))) (h12 : cs[12]? = some (.int .i64 (X k))) :
    Built w ((((wr.setCell ⟨w.heap.size, k, none⟩ (.pointer (some ⟨wr.heap.size, 0, none⟩))).setCell ⟨w.heap.size + 1, k, none⟩ (.int .i64 (-1))).setCell ⟨w.heap.size + 1, k, none⟩ (.int .i64 p)).alloc (.cells cs 35)) n (k + 1) (setAt nb k wr.heap.size) (setAt C k (.slice none 0 0)) par (kids par k) Q X := by
  have hs2 : (((wr.setCell ⟨w.heap.size, k, none⟩ (.pointer (some ⟨wr.heap.size, 0, none⟩))).setCell ⟨w.heap.size + 1, k, none⟩ (.int .i64 (-1))).setCell ⟨w.heap.size + 1, k, none⟩ (.int .i64 p)).heap.size = wr.heap.size := by simp [World.setCell]
  have hwr := h.below.size
  refine h.add hp hk ?_ ?_ ?_ ?_ ?_ ?_
  · exact ((((Below.refl _ _).setCell (by simp) _).setCell (by simp) _).setCell (by simp) _).alloc (by omega) _
  · show (World.alloc _ _).heap.size = _
    rw [World.size_alloc, hs2]
  · intro j h1 h2 h3
    by_cases hj : j < wr.heap.size
    · rw [Below.heap_alloc _ _ _ (by omega), Below.heap_setCell _ _ _ _ (by simpa using h2), Below.heap_setCell _ _ _ _ (by simpa using h2), Below.heap_setCell _ _ _ _ (by simpa using h1)]
    · rw [Array.getElem?_eq_none (by rw [World.size_alloc, hs2]; omega), Array.getElem?_eq_none (by omega)]
  · intro F hF
    exact ⟨_, (((hF.set k _).setOther (by simp) _).setOther (by simp) _).alloc _, by simp, fun j _ hne => by simp [hne]⟩
  · intro G hG
    refine ⟨_, (((hG.setOther (by simp) _).set k _).set k _).alloc _, ?_, fun j _ hne => by simp [hne]⟩
    have : parZ par k = (p : Int) := by unfold parZ; rw [if_neg (by omega), hpp]
    simp [this]
  · exact NodeAt.laid _ cs k (Q k) (X k) _ hs h1 h2 h8 h11 h12 _ (by rw [hs2])

theorem Built.start (w : World) (n : Nat) (par : Nat → Nat) (Q X : Nat → Int) :
    Built w ((w.alloc (.cells (madeCells #[.pointer none] n) 28)).alloc (.cells (madeCells #[.int .i64 0] n) 3)) n 0 (fun _ => 0) (fun _ => .slice none 0 0) par (kids par 0) Q X := by
  refine ⟨((Below.refl _ _).alloc (Nat.le_refl _) _).alloc (by simp) _, ⟨_, (World.rowIs_made w (.pointer none) n 28).alloc _, fun j hj => by omega⟩, ⟨fun _ => .int .i64 0, ?_, fun j hj => by omega⟩, ⟨fun i hi => by omega, fun i hi => by omega⟩, fun i j hi => by omega⟩
  · have := World.rowIs_made (w.alloc (.cells (madeCells #[.pointer none] n) 28)) (.int .i64 0) n 3
    simpa using this

set_option maxRecDepth 100000 in
set_option maxHeartbeats 2000000 in
theorem build_any (b off n cap : Nat) (pp : Nat → Nat) (Q X : Nat → Int) (w : World) (hn0 : 0 < n) (hn : n ≤ 1024) (hin : Came w b off n pp Q X) :
    Calls Yba.prog 5 #[.slice (some ⟨b, off, none⟩) n cap] w fun e w' => ∃ nb C, e = .returned (.tuple #[.slice (some ⟨w.heap.size, 0, none⟩) n n, .slice (some ⟨w.heap.size + 1, 0, none⟩) n n]) ∧ Built w w' n n nb C (fun j => pp j % j) (kids (fun j => pp j % j) n) Q X := by
  have hmk28 := run_make_row' (P := Yba.prog) 24 28 (.pointer none) 8 Yba.underlying24 info28 rfl .i64 .i64 n (by omega) (by omega)
  have hmk3 := run_make_row' (P := Yba.prog) 25 3 (.int .i64 0) 8 Yba.underlying25 info3 rfl .i64 .i64 n (by omega) (by omega)
  obtain ⟨i28, hi28, hz28, hs28, hb28⟩ := info_parts info28
  have HI := hide (And.intro hi28 (And.intro hz28 (And.intro hs28 hb28)))
  clear hi28 hz28 hs28 hb28
  go_enter Yba.func5, Yba.ntmps5
  go_wp2_with fail
  go_loopw [7] (fun t wr => ∃ (k : Nat) (nb : Nat → Nat) (C : Nat → Value), k ≤ n ∧ t = .int .i64 k ∧ Built w wr n k nb C (fun j => pp j % j) (kids (fun j => pp j % j) k) Q X) (fun t _ => n - (intOf t).toNat)
  case atStart => exact ⟨0, _, _, Nat.zero_le _, rfl, Built.start w n _ Q X⟩
  case round =>
    obtain ⟨k, nb, C, hk, rfl, hB⟩ := hrel
    clear hmk28 hmk3
    by_cases hlt : k < n
    · have hbel := hB.below
      have i1 := (hbel.cell (p := ⟨b, off + k * 3 + 1, none⟩) hin.lt).trans (hin.c1 k hlt)
      have i2 := (hbel.cell (p := ⟨b, off + k * 3 + 2, none⟩) hin.lt).trans (hin.c2 k hlt)
      have i0 := (hbel.cell (p := ⟨b, off + k * 3, none⟩) hin.lt).trans (hin.c0 k hlt).1
      have ip := (hin.c0 k hlt).2
      obtain ⟨F, hF, hF2⟩ := hB.nodes
      obtain ⟨G, hG, hG2⟩ := hB.pars
      have hBn := hF.cell hlt
      have hBp := hG.cell hlt
      have hBs := hF.lt
      have hPs := hG.lt
      have hBf := hF.frozen k
      have hPf := hG.frozen k
      have hb := hin.lt
      rcases Nat.eq_zero_or_pos k with hk0 | hk0
      · subst hk0
        clear hF2 hG2 hF hG hbel hin i0 ip
        have HB := hide hB
        clear hB
        generalize hq0 : Q 0 = qk at *
        generalize hx0 : X 0 = xk at *
        have HE := hide (And.intro hq0 hx0)
        clear hq0 hx0
        generalize F 0 = fk at *
        generalize G 0 = gk at *
        go_wp2_with fail
        go_region
        go_wp2_with fail
        go_roundw
        case rel =>
          refine ⟨1, setAt nb 0 wr.heap.size, setAt C 0 (.slice none 0 0), by omega, by go_num, ?_⟩
          rw [show kids (fun j => pp j % j) 1 = kids (fun j => pp j % j) 0 from funext fun i => kids_succ_miss _ 0 i (.inl rfl)]
          obtain ⟨e1, e2⟩ := HE.out
          exact (Built.lay0 (modPar pp) HB.out hlt _ rfl rfl rfl rfl (by rw [e1]; rfl) (by rw [e2]; rfl)).drew
        case measure => simp [intOf]; omega
      · obtain ⟨p, hpp⟩ : ∃ p, pp k % k = p := ⟨_, rfl⟩
        have hpk : p < k := by rw [← hpp]; exact Nat.mod_lt _ hk0
        have hpz : ((pp k : Nat) : Int) % (k : Int) = (p : Int) := by omega
        have HPP := hide hpp
        have hpn : p < n := by omega
        have hpne : ¬ p = k := by omega
        have hcp := hF.cell hpn
        rw [hF2 p hpk] at hcp
        obtain ⟨hBnp, hnode⟩ := hB.forest.node p hpk
        obtain ⟨nc1, nc2, nc8, nc11, nc12⟩ := hnode.cell
        have nlt := hnode.lt
        have hbr : b < wr.heap.size := by omega
        have hbn0 : ¬ b = w.heap.size := by omega
        have hbn1 : ¬ b = w.heap.size + 1 := by omega
        have hnn0 : ¬ nb p = w.heap.size := by omega
        have hnn1 : ¬ nb p = w.heap.size + 1 := by omega
        have hnn2 : ¬ nb p = wr.heap.size := by omega
        have nf1 := hnode.free 1
        have hown := hB.forest.kids p hpk
        have hkl := kids_length_le (fun j => pp j % j) k p
        clear hF2 hG2 hF hG hbel hin hpp nc2 nc8 nc11 nc12 hnode
        have HB := hide hB
        clear hB
        generalize hqk : Q k = qk at *
        generalize hxk : X k = xk at *
        generalize hpk' : pp k = pk at *
        generalize F k = fk at *
        generalize G k = gk at *
        generalize hbp : nb p = bp at *
        generalize hCp : C p = Cp at *
        have HE := hide (And.intro hqk (And.intro hxk (And.intro hpk' (And.intro hbp hCp))))
        clear hqk hxk hpk' hbp hCp
        obtain ⟨ag, capg, hv⟩ : ∃ ag capg, Cp = .slice ag (kids (fun j => pp j % j) k p).length capg := by
          rcases Joins.ownsRow_forms hown with ⟨hv, hl0⟩ | ⟨g, capg, hv⟩
          · exact ⟨none, 0, by rw [hl0]; exact hv⟩
          · exact ⟨_, _, hv⟩
        clear hown
        generalize hlen : (kids (fun j => pp j % j) k p).length = m at *
        have HM := hide hlen
        clear hlen
        have HV := hide hv
        rw [hv] at nc1
        clear hv
        go_wp2_with fail
        go_region
        go_wp2_with fail
        go_region
        go_wp2_with fail
        go_region
        go_wp2_with fail
        obtain ⟨W, hW⟩ : ∃ W, W = ((((wr.setCell ⟨w.heap.size, k, none⟩ (.pointer (some ⟨wr.heap.size, 0, none⟩))).setCell ⟨w.heap.size + 1, k, none⟩ (.int .i64 (-1))).setCell ⟨w.heap.size + 1, k, none⟩ (.int .i64 p)).alloc (.cells #[.pointer (some ⟨bp, 0, none⟩), .slice none 0 0, .int .i64 (-1), .float .f64 0, .int .i64 0, .int .i64 0, .slice none 0 0, .int .i64 m, .int .i64 k, .float .f64 0, .float .f64 0, .int .i64 qk, .int .i64 xk, .int .i64 0, .int .i64 0, .int .i64 0, .bool false, .pointer none, .int .i64 0] 35)).drew.drew.drew := ⟨_, rfl⟩
        rw [← hW]
        have hBW : Built w W n (k + 1) (setAt nb k wr.heap.size) (setAt C k (.slice none 0 0)) (fun j => pp j % j) (kids (fun j => pp j % j) k) Q X := by
          rw [hW]
          obtain ⟨e1, e2, e3, e4, e5⟩ := HE.out
          exact (Built.lay (modPar pp) HB.out hlt hk0 p (by show pp k % k = p; rw [e3]; exact HPP.out) _ rfl rfl rfl rfl (by rw [e1]; rfl) (by rw [e2]; rfl)).drew.drew.drew
        have hWs : W.heap.size = wr.heap.size + 1 := by rw [hW]; simp
        clear hW
        clear hBn hBp hBf hPf nf1 nc1 hcp i0 i1 i2
        obtain ⟨F1, hF1, hF12⟩ := hBW.nodes
        have hc1 := hF1.cell hpn
        have hc2 := hF1.cell hlt
        rw [hF12 p (by omega), setAt_other _ _ _ _ hpne] at hc1
        rw [hF12 k (by omega), setAt_same] at hc2
        have hn1 := (hBW.forest.node p (by omega)).2
        rw [setAt_other _ _ _ _ hpne, setAt_other _ _ _ _ hpne] at hn1
        have hown1 := hBW.forest.kids p (by omega)
        rw [setAt_other _ _ _ _ hpne] at hown1
        obtain ⟨e1, e2, e3, e4, e5⟩ := HE.out
        rw [e4] at hc1
        rw [e4, e5, HV.out] at hn1
        rw [e5, HV.out, HM.out] at hown1
        have hc3 := hn1.cell.1
        have hf3 := hn1.free 1
        have hl3 := hn1.lt
        have hF1l := hF1.lt
        have hrow1 : (Value.slice ag m capg).ownBlock ≠ some bp := by
          intro he
          obtain ⟨cs, hcs, _⟩ := hn1
          rcases hown1.2 with ⟨hv, _⟩ | ⟨g', cap', cur, hv, _, hg', _⟩
          · rw [hv] at he; simp [Value.ownBlock] at he
          · rw [hv] at he; simp [Value.ownBlock] at he
            subst he; rw [hcs] at hg'; simp at hg'
        have hrow0 : (Value.slice ag m capg).ownBlock ≠ some w.heap.size := by
          intro he
          have := (hown1.lt _ he).1
          omega
        clear hF12 hF1 hn1
        obtain ⟨j1, j2, j3, j4⟩ := HI.out
        obtain ⟨g, cap1, w1, hrun, hown2, hgrow, hat, hglt⟩ := run_append_lies (P := Yba.prog) ((W.alloc (.cells #[.pointer (some ⟨wr.heap.size, 0, none⟩)] 28)).drew) 24 24 (w.heap.size + 2) 28 i28 (.pointer none) 1 8 Yba.underlying24 j1 j2 j3 j4 rfl (by omega)
          (.slice ag m capg) m _ ((hown1.alloc _).drew) ⟨W.heap.size, 0, none⟩ 1 1 [.pointer (some ⟨wr.heap.size, 0, none⟩)] rfl (World.news_of_block (cs := #[.pointer (some ⟨wr.heap.size, 0, none⟩)]) (t := 28) (fr := (0, 0)) (heap_alloc_new W _)) (by simp [Value.oneCell'])
          (by omega) (by unfold maxLen; omega) (by omega) (by simp; omega) (W.heap.size + 1) (by simp)
        have hok : AppOk Yba.prog #[24, 24] 24 #[.slice ag m capg, .slice (some ⟨W.heap.size, 0, none⟩) 1 1] ((W.alloc (.cells #[.pointer (some ⟨wr.heap.size, 0, none⟩)] 28)).drew) := ⟨_, _, hrun⟩
        have hout : appOut Yba.prog #[24, 24] 24 #[.slice ag m capg, .slice (some ⟨W.heap.size, 0, none⟩) 1 1] ((W.alloc (.cells #[.pointer (some ⟨wr.heap.size, 0, none⟩)] 28)).drew) = (.slice (some ⟨g, 0, none⟩) (m + 1) cap1, w1) := by unfold appOut; rw [hrun]
        have k1 : w1.cell? ⟨bp, 1, none⟩ = some (.slice ag m capg) := by
          rw [hgrow.cell_far _ (by simp; omega) (Ne.symm hrow1)]
          go_simp
        have k2 : w1.frozen? ⟨bp, 1, none⟩ = false := by
          rw [hgrow.frozen_far _ (by simp; omega) (Ne.symm hrow1)]
          go_simp
        have k0 : w1.cell? ⟨w.heap.size, p, none⟩ = some (.pointer (some ⟨bp, 0, none⟩)) := by
          rw [hgrow.cell_far _ (by simp; omega) (Ne.symm hrow0)]
          go_simp
        have HX := hide (And.intro hown1 (And.intro hown2 (And.intro hgrow (And.intro hat hglt))))
        clear hown1 hown2 hgrow hat hglt hrun e1 e2 e3 e4 e5 j1 j2 j3 j4
        have HW := hide (And.intro hWs hBW)
        clear hBW hWs
        have HB2 := hide (And.intro hnn0 (And.intro hnn1 hnn2))
        clear hnn0 hnn1 hnn2 hbn0 hbn1
        go_region
        go_wp2_with fail
        go_roundw
        case rel =>
          obtain ⟨hown1, hown2, hgrow, hat, hglt⟩ := HX.out
          obtain ⟨hWs, hBW⟩ := HW.out
          obtain ⟨e1, e2, e3, e4, e5⟩ := HE.out
          have e6 : setAt nb k wr.heap.size p = bp := by rw [setAt_other _ _ _ _ hpne, e4]
          have e7 : setAt C k (.slice none 0 0) p = .slice ag m capg := by rw [setAt_other _ _ _ _ hpne, e5, HV.out]
          have hg := Built.grow (w1 := w1) (g := g) (cap := cap1) (p := p) (modPar pp) hBW hlt hk0 (by show pp k % k = p; rw [e3]; exact HPP.out) (H := W.heap.size) rfl undef ((W.alloc (.cells #[.pointer (some ⟨wr.heap.size, 0, none⟩)] 28)).drew)
            (((Below.refl _ _).alloc (Nat.le_refl _) _).drew) (by rw [HM.out, setAt_same]; exact hown2) (by rw [e7]; exact hgrow) (by rw [e7]; rcases hat with h | h; exact .inl h; exact .inr (by omega))
          rw [e6, HM.out] at hg
          exact ⟨k + 1, _, _, by omega, by go_num, hg⟩
        case measure => simp [intOf]; omega
    · go_wp2_with fail
      go_ret2
      have hkn : k = n := by omega
      subst hkn
      exact ⟨nb, C, rfl, hB⟩
end Go.Proofs.Ybulkcnq
