import Derived.Test.YbulkclmFmtBin
import Derived.Laws.BytesArg
import Derived.Laws.IdiomStrings
namespace Go.Proofs.YbulkclmFmt
open Go.ChangeShapes Go.WideShapes Go.ChangeAt Go.RowKit
set_option linter.unusedVariables false

/-- A slice of bytes, nil or not. -/
def Sl (w : World) (a : Option Addr) (n : Nat) (K : Nat → Int) : Prop := n = 0 ∨ ∃ b o, a = some ⟨b, o, none⟩ ∧ At w b o K 0 n

/-- The string of the first n bytes of K. -/
def toStr (K : Nat → Int) (n : Nat) : ByteArray := strOfNums ((List.range n).map K)
/-- The bytes of a string. -/
def strB (s : ByteArray) : Nat → Int := fun j => ((s.data.toList.map fun b => (b.toNat : Int)).getD j 0)

theorem strB_byt (s : ByteArray) : Byt (strB s) := fun j => by
  unfold strB
  rw [List.getD_eq_getElem?_getD, List.getElem?_map]
  cases s.data.toList[j]? with
  | none => simp
  | some b => have := b.toNat_lt; simp; omega

theorem toStr_size (K : Nat → Int) (n : Nat) : (toStr K n).size = n := by unfold toStr; rw [strOfNums_size]; simp

theorem conv_any {w : World} {a : Option Addr} {n : Nat} {K : Nat → Int} (h : Sl w a n K) (c : Nat) : (convert 23 9 (.slice a n c)).run Ybaf.prog w = .ok (.string (toStr K n)) w := by
  rcases h with rfl | ⟨b, o, rfl, hc⟩
  · have e : toStr K 0 = ByteArray.empty := rfl
    rw [e, run_convert_bytes_string w 23 9 5 _ 0 c Ybaf.underlying23 Ybaf.underlying5 Ybaf.underlying9]
    cases a <;> simp [Conv.bytesToString, loadCells, loadCellsFrom]
  · refine run_convert_bytes_arg w 23 5 Ybaf.underlying23 Ybaf.underlying5 b o n c _ (by simp) (fun i hi => ?_) 9 Ybaf.underlying9
    rw [hc i hi, Nat.zero_add]
    simp [hi]

theorem toStr_inj {K J : Nat → Int} {n m : Nat} (hK : Byt K) (hJ : Byt J) : toStr K n = toStr J m ↔ (n = m ∧ ∀ j, j < n → K j = J j) := by
  constructor
  · intro h
    have hn : n = m := by have := congrArg ByteArray.size h; rwa [toStr_size, toStr_size] at this
    subst hn
    refine ⟨rfl, fun j hj => ?_⟩
    have := congrArg (fun s => s.data.toList[j]?) h
    simp [toStr, strOfNums, hj] at this
    have h1 := hK j
    have h2 := hJ j
    have := congrArg UInt8.toNat this
    simp at this
    omega
  · rintro ⟨rfl, h⟩
    unfold toStr
    congr 1
    apply List.map_congr_left
    intro j hj
    exact h j (by simpa using hj)

theorem strOfNums_map' (s : ByteArray) : strOfNums (s.data.toList.map (fun b => (b.toNat : Int))) = s := by
  unfold strOfNums
  rw [List.map_map]
  have e : ((fun n : Int => UInt8.ofNat n.toNat) ∘ fun b : UInt8 => (b.toNat : Int)) = id := by
    funext b
    simp
  rw [e, List.map_id]

theorem toStr_strB (s : ByteArray) : toStr (strB s) s.size = s := by
  have e : (List.range s.size).map (strB s) = s.data.toList.map (fun b => (b.toNat : Int)) := by
    apply List.ext_getElem?
    intro j
    have hs : s.size = s.data.toList.length := by rw [Array.length_toList]; rfl
    by_cases hj : j < s.size
    · simp only [List.getElem?_map, List.getElem?_range hj, Option.map_some]
      unfold strB
      rw [List.getD_eq_getElem?_getD, List.getElem?_map, List.getElem?_eq_getElem (by omega)]
      simp
    · rw [List.getElem?_eq_none (by simp; omega), List.getElem?_eq_none (by simp; simp at hs; omega)]
  unfold toStr
  rw [e]
  exact strOfNums_map' s

theorem byteCells_strB (s : ByteArray) : byteCells s = cellsOf (strB s) s.size := by
  apply List.ext_getElem?
  intro j
  have hs : s.size = s.data.toList.length := by rw [Array.length_toList]; rfl
  by_cases hj : j < s.size
  · rw [cellsOf_get? hj]
    unfold byteCells strB
    rw [List.getD_eq_getElem?_getD, List.getElem?_map, List.getElem?_map, List.getElem?_eq_getElem (by omega)]
    simp
  · rw [List.getElem?_eq_none (by rw [byteCells_length]; omega), List.getElem?_eq_none (by rw [cellsOf_length]; omega)]

theorem Sl.later {w w' : World} {a : Option Addr} {n : Nat} {K : Nat → Int} (h : Sl w a n K) (hb : Below w.heap.size w w') : Sl w' a n K := by
  rcases h with h | ⟨b, o, rfl, hc⟩
  · exact .inl h
  · rcases Nat.eq_zero_or_pos n with h0 | h0
    · exact .inl h0
    · have hlt : b < w.heap.size := World.block_lt_of_cell? w _ (hc 0 h0)
      exact .inr ⟨b, o, rfl, fun j hj => (hb.cell (p := ⟨b, o + j, none⟩) hlt).trans (hc j hj)⟩

set_option maxRecDepth 100000 in
set_option maxHeartbeats 1000000 in
theorem equal_any (a b : Option Addr) (n c m d : Nat) (K J : Nat → Int) (w : World) (ha : Sl w a n K) (hb : Sl w b m J) :
    Calls Ybaf.prog 16 #[.slice a n c, .slice b m d] w fun e w' => e = .returned (.bool ((toStr K n).toList == (toStr J m).toList)) ∧ w' = w := by
  have h1 := conv_any ha c
  have h2 := conv_any hb d
  clear ha hb
  generalize toStr K n = s at *
  generalize toStr J m = t at *
  go_enter Ybaf.func16, Ybaf.ntmps16
  go_wp2_with fail
  go_ret
  exact ⟨rfl, rfl⟩

theorem beq_str (s t : ByteArray) : (s.toList == t.toList) = decide (s = t) := by
  by_cases h : s = t
  · subst h; simp
  · have : s.toList ≠ t.toList := fun e => by
      rw [ByteArray.toList_eq, ByteArray.toList_eq] at e
      apply h
      cases s; cases t
      simp only at e
      congr 1
      exact Array.ext' e
    rw [decide_eq_false h]
    simpa using this

/-- '[]byte(s)'. -/
theorem bytes_of (w : World) (s : ByteArray) : ∃ c w', (convert 9 23 (.string s)).run Ybaf.prog w = .ok (.slice (some ⟨w.heap.size, 0, none⟩) s.size c) w' ∧ s.size ≤ c ∧ Below w.heap.size w w' ∧ w'.heap.size = w.heap.size + 1 ∧ At w' w.heap.size 0 (strB s) 0 s.size := by
  refine ⟨_, _, run_bytes_of_string w 9 23 5 s Ybaf.underlying9 Ybaf.underlying23 Ybaf.underlying5, grownCap_ge w s.size 0 5, (Below.refl _ _).drew.alloc (by simp) _, by simp, fun j hj => ?_⟩
  have hs : s.size = s.data.size := rfl
  have hblk := heap_alloc_new w.drew (.cells (bytesRow s (grownCap w s.size 0 5)) 5 ((bytesRow s (grownCap w s.size 0 5)).size, (bytesRow s (grownCap w s.size 0 5)).size + 1))
  have hj' : j < s.data.size := by omega
  rw [Nat.zero_add, Joins.cell_of_block (g := w.heap.size) hblk, bytesRow_at s _ j hj']
  unfold strB
  rw [List.getD_eq_getElem?_getD, List.getElem?_map, List.getElem?_eq_getElem (by simpa using hj')]
  simp
end Go.Proofs.YbulkclmFmt
