import Derived.Test.Qxb6604343aParts
namespace Go.Proofs.Qxb6604343a
open Go.RowKit
set_option linter.unusedVariables false

theorem Try.info9 : (Try.prog.info? 9).map (fun i => (i.zero, i.size, i.bytes)) = some (some (.string ByteArray.empty), 1, 16) := by kernel_rfl
theorem Try.info45 : (Try.prog.info? 45).map (fun i => (i.zero, i.size, i.bytes)) = some (some (.pointer none), 1, 8) := by kernel_rfl

/-- the first k of vs, then z -/
def filled (z : Value) (vs : List Value) (k : Nat) : List Value := vs.take k ++ List.replicate (vs.length - k) z
theorem filled_zero (z : Value) (vs : List Value) : filled z vs 0 = List.replicate vs.length z := by simp [filled]
theorem filled_all (z : Value) (vs : List Value) : filled z vs vs.length = vs := by simp [filled]
theorem filled_length (z : Value) (vs : List Value) (k : Nat) (h : k ≤ vs.length) : (filled z vs k).length = vs.length := by simp [filled]; omega
theorem filled_set (z : Value) (vs : List Value) (k : Nat) (v : Value) (h : vs[k]? = some v) : (filled z vs k).set k v = filled z vs (k + 1) := by
  have hk : k < vs.length := (List.getElem?_eq_some_iff.1 h).1
  apply List.ext_getElem?
  intro j
  rw [List.getElem?_set]
  simp only [filled, List.length_append, List.length_take, List.length_replicate, List.getElem?_append, List.getElem?_take, List.getElem?_replicate]
  have e1 : min k vs.length = k := by omega
  have e2 : min (k + 1) vs.length = k + 1 := by omega
  rw [e1, e2]
  by_cases h1 : k = j
  · subst h1
    simp [h]
    omega
  · by_cases h2 : j < k
    · simp [h1, h2]; rw [if_pos (by omega), if_pos (by omega)]
    · simp [h1, h2]
      by_cases h3 : j < vs.length
      · rw [if_pos (by omega), if_neg (by omega), if_pos (by omega)]
      · rw [if_neg (by omega), if_neg (by omega), if_neg (by omega)]
theorem made_cells (z : Value) (n : Nat) : madeCells #[z] n = (List.replicate n z).toArray := by
  apply Array.ext'
  rw [toList_madeCells_one]

/-- zzCloneStringsB1 at nil -/
theorem clone_nil (w : World) : Calls Try.prog 11 #[.slice none 0 0] w fun e w' => e = .returned (.slice none 0 0) ∧ w = w' := by
  have q27 : ∀ (w : World) (a : Option Addr) (n c n' c' : Nat), (binOp .eql 27 (.slice a n c) (.slice none n' c')).run Try.prog w = .ok (.bool a.isNone) w := fun w a n c n' c' => Lib.run_eql_slice_nil w _ _ a n c n' c' Try.underlying27
  go_enter Try.func11, Try.ntmps11
  go_wp2
  go_ret
  exact ⟨rfl, rfl⟩

/-- the cells of a row of strings -/
def strV (ss : List ByteArray) : List Value := ss.map Value.string
theorem strV_get (ss : List ByteArray) (k : Nat) (h : k < ss.length) : (strV ss)[k]? = some (.string (ss.getD k ByteArray.empty)) := by simp [strV, h]

theorem lt_of_cell {w : World} {a : Addr} {v : Value} (h : w.cell? a = some v) : a.block < w.heap.size := by
  unfold World.cell? at h
  by_cases hb : a.block < w.heap.size
  · exact hb
  · rw [Array.getElem?_eq_none (by omega)] at h
    simp at h

theorem clone_some (w : World) (x : Addr) (cap : Nat) (ss : List ByteArray) (hlen : ss.length ≤ 4096) (hs : Strs w (some x) ss) :
    Calls Try.prog 11 #[.slice (some x) ss.length cap] w fun e w' => e = .returned (.slice (some ⟨w.heap.size, 0, none⟩) ss.length ss.length) ∧ w' = w.alloc (.cells (strV ss).toArray 9) := by
  have q27 : ∀ (w : World) (a : Option Addr) (n c n' c' : Nat), (binOp .eql 27 (.slice a n c) (.slice none n' c')).run Try.prog w = .ok (.bool a.isNone) w := fun w a n c n' c' => Lib.run_eql_slice_nil w _ _ a n c n' c' Try.underlying27
  have hmk := fun w => run_make_row' 27 9 (.string ByteArray.empty) 16 Try.underlying27 Try.info9 rfl .i64 .i64 ss.length (by omega) (by omega) w
  simp only [made_cells] at hmk
  have HS : Hid (Strs w (some x) ss) := hs
  clear hs
  go_enter Try.func11, Try.ntmps11
  go_wp2
  go_loopw [4] (fun i wr => ∃ k : Nat, k ≤ ss.length ∧ i = .int .i64 k ∧ wr = w.alloc (.cells (filled (.string ByteArray.empty) (strV ss) k).toArray 9)) (fun i _ => ss.length - (intOf i).toNat)
  case atStart => exact ⟨0, Nat.zero_le _, rfl, by rw [filled_zero]; simp [strV]⟩
  case round =>
    obtain ⟨k, hk, rfl, rfl⟩ := hrel
    clear hmk q27
    by_cases hlt : k < ss.length
    · obtain ⟨b, off, ea, hc⟩ := HS.out (by omega)
      have hk1 := hc k hlt
      have hb : b < w.heap.size := lt_of_cell hk1
      simp only [Option.some.injEq] at ea
      subst ea
      have h1 : (w.alloc (.cells (filled (.string ByteArray.empty) (strV ss) k).toArray 9)).cell? ⟨b, off + k, none⟩ = some (.string (ss.getD k ByteArray.empty)) := by
        rw [← hk1]; exact World.cell?_of_block (w := w) (Below.heap_alloc w _ b hb)
      have hfl : k < (filled (.string ByteArray.empty) (strV ss) k).length := by rw [filled_length _ _ _ (by simp [strV]; omega)]; simpa [strV] using hlt
      have h2 : (w.alloc (.cells (filled (.string ByteArray.empty) (strV ss) k).toArray 9)).cell? ⟨w.heap.size, k, none⟩ = some ((filled (.string ByteArray.empty) (strV ss) k)[k]'hfl) :=
        cell_of (t := 9) (heap_alloc_new w _) (by simp)
      obtain ⟨s, es⟩ : ∃ s, Hid (s = ss.getD k ByteArray.empty) := ⟨_, rfl⟩
      rw [← es.out] at h1
      clear hc hk1
      go_wp2
      go_roundw
      case rel =>
        refine ⟨k + 1, by omega, by go_num, ?_⟩
        rw [es.out, filled_set _ _ k _ (strV_get ss k hlt)]
      case measure => simp [intOf]; omega
    · go_wp2
      go_ret
      have e := filled_all (.string ByteArray.empty) (strV ss)
      rw [show (strV ss).length = k by simp [strV]; omega] at e
      exact ⟨rfl, by rw [e]⟩

/-- zzCloneStringsB1: the same strings, apart from all that was there. -/
theorem clone_any (w : World) (a : Option Addr) (cap : Nat) (ss : List ByteArray) (hlen : ss.length ≤ 4096) (hs : Strs w a ss) (hn : a = none → ss = [] ∧ cap = 0) :
    Calls Try.prog 11 #[.slice a ss.length cap] w fun e w' => ∃ a', e = .returned (.slice a' ss.length ss.length) ∧ Strs w' a' ss ∧ Below w.heap.size w w' := by
  cases a with
  | none =>
    obtain ⟨rfl, rfl⟩ := hn rfl
    refine (clone_nil w).mono ?_
    rintro e w' ⟨rfl, rfl⟩
    exact ⟨none, rfl, hs, Below.refl _ _⟩
  | some x =>
    refine (clone_some w x cap ss hlen hs).mono ?_
    rintro e w' ⟨rfl, rfl⟩
    refine ⟨_, rfl, fun _ => ⟨w.heap.size, 0, rfl, fun j hj => ?_⟩, (Below.refl _ _).alloc (Nat.le_refl _) _⟩
    rw [Nat.zero_add]
    exact cell_of (t := 9) (heap_alloc_new w _) (by simpa using strV_get ss j hj)

/-! ### the handles -/
def hsV (B n : Nat) : List Value := (List.range n).map fun j => .pointer (some ⟨B + 2 + j, 0, none⟩)
theorem hsV_length (B n : Nat) : (hsV B n).length = n := by simp [hsV]
theorem hsV_get (B n k : Nat) (h : k < n) : (hsV B n)[k]? = some (.pointer (some ⟨B + 2 + k, 0, none⟩)) := by simp [hsV, h]

structure Inv (B n : Nat) (m : Int) (ss : List ByteArray) (w1 : World) (k : Nat) (wr : World) : Prop where
  below : Below B w1 wr
  size : wr.heap.size = B + 2 + k
  pool : wr.heap[B]? = some (poolObj m)
  hs : wr.heap[B + 1]? = some (.cells (filled (.pointer none) (hsV B n) k).toArray 45 (0, 0))
  files : ∀ j, j < k → wr.heap[B + 2 + j]? = some (fileObj ⟨B, 0, none⟩ (ss.getD j ByteArray.empty))

theorem Inv.start (n : Nat) (m : Int) (ss : List ByteArray) (w1 : World) : Inv w1.heap.size n m ss w1 0 ((w1.alloc (poolObj m)).alloc (.cells (List.replicate n (Value.pointer none)).toArray 45)) := by
  refine ⟨((Below.refl _ _).alloc (Nat.le_refl _) _).alloc (by simp) _, by simp, ?_, ?_, fun j hj => by omega⟩
  · rw [Below.heap_alloc _ _ _ (by simp)]
    exact heap_alloc_new w1 _
  · have e := heap_alloc_new (w1.alloc (poolObj m)) (.cells (List.replicate n (Value.pointer none)).toArray 45)
    rw [World.size_alloc] at e
    rw [filled_zero, hsV_length]
    exact e

theorem Inv.step {B n : Nat} {m : Int} {ss : List ByteArray} {w1 wr : World} {k : Nat} (h : Inv B n m ss w1 k wr) (hk : k < n) (hB : B ≤ w1.heap.size) :
    Inv B n m ss w1 (k + 1) ((wr.alloc (fileObj ⟨B, 0, none⟩ (ss.getD k ByteArray.empty))).setCell ⟨B + 1, k, none⟩ (.pointer (some ⟨wr.heap.size, 0, none⟩))) := by
  have hsz := h.size
  refine ⟨(h.below.alloc (by omega) _).setCell (by simp) _, by simp; omega, ?_, ?_, fun j hj => ?_⟩
  · rw [Below.heap_setCell _ _ _ _ (by simp), Below.heap_alloc _ _ _ (by omega)]; exact h.pool
  · have hh : (wr.alloc (fileObj ⟨B, 0, none⟩ (ss.getD k ByteArray.empty))).heap[B + 1]? = some (.cells (filled (.pointer none) (hsV B n) k).toArray 45 (0, 0)) := by
      rw [Below.heap_alloc _ _ _ (by omega)]; exact h.hs
    have e := heap_setCell_same _ (B + 1) k _ 45 (.pointer (some ⟨wr.heap.size, 0, none⟩)) hh
    rw [e, List.setIfInBounds_toArray, hsz, filled_set _ _ k _ (hsV_get B n k hk)]
  · rw [Below.heap_setCell _ _ _ _ (by simp; omega)]
    by_cases hjk : j = k
    · subst hjk
      rw [← hsz]; exact heap_alloc_new wr _
    · rw [Below.heap_alloc _ _ _ (by omega)]; exact h.files j (by omega)
end Go.Proofs.Qxb6604343a
