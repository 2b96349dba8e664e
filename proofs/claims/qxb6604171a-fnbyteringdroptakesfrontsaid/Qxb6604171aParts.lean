import Derived.Test.Qxb6604171aRows
import Derived.WalkKit
import Derived.ProofKit
import Derived.ChangeOld
import Derived.Below
import Derived.WalkLawsBesides
import Derived.WalkSpells
import Derived.Deep.OwnRows
import Derived.Deep.QuietTactic
import Derived.BigQuiet
import Derived.Deep.RegionWith
import Derived.RegionTactic
import Derived.BigRegion
namespace Go.Proofs.Qxb6604171a
open Go.RowKit
set_option linter.unusedVariables false

theorem Try.info5 : (Try.prog.info? 5).map (fun i => (i.zero, i.size, i.bytes)) = some (some (.int .u8 0), 1, 1) := by kernel_rfl

/-- The cells of a row of bytes. -/
def cellsOf (zs : List Int) : Array Value := (zs.map (Value.int .u8)).toArray
theorem cellsOf_size (zs : List Int) : (cellsOf zs).size = zs.length := by simp [cellsOf]
theorem cellsOf_get (zs : List Int) (j : Nat) (h : j < zs.length) : (cellsOf zs)[j]? = some (.int .u8 (zs.getD j 0)) := by
  simp [cellsOf, h]
/-- block b of the world is just the row zs of bytes, none frozen -/
def RowAt (w : World) (b : Nat) (zs : List Int) : Prop := w.heap[b]? = some (.cells (cellsOf zs) 5 (0, 0))
theorem RowAt.cell {w : World} {b : Nat} {zs : List Int} (h : RowAt w b zs) (j : Nat) (hj : j < zs.length) : w.cell? ⟨b, j, none⟩ = some (.int .u8 (zs.getD j 0)) := by
  have h' : w.heap[b]? = some (.cells (cellsOf zs) 5 (0, 0)) := h
  simp only [World.cell?, h']
  simpa using cellsOf_get zs j hj
theorem RowAt.alloc {w : World} {b : Nat} {zs : List Int} (h : RowAt w b zs) (o : Obj) : RowAt (w.alloc o) b zs := by
  have h' : w.heap[b]? = some (.cells (cellsOf zs) 5 (0, 0)) := h
  have hb := (Array.getElem?_eq_some_iff.1 h').1
  show (w.alloc o).heap[b]? = _
  rw [Below.heap_alloc w o b hb]; exact h
theorem RowAt.lt {w : World} {b : Nat} {zs : List Int} (h : RowAt w b zs) : b < w.heap.size := (Array.getElem?_eq_some_iff.1 (show w.heap[b]? = some (.cells (cellsOf zs) 5 (0, 0)) from h)).1
theorem RowAt.below {w w' : World} {B b : Nat} {zs : List Int} (h : RowAt w b zs) (hb : Below B w w') (hB : b < B) : RowAt w' b zs := by
  show w'.heap[b]? = _
  rw [hb.block b hB]; exact h
theorem RowAt.made (w : World) (zs : List Int) : RowAt (w.alloc (.cells (cellsOf zs) 5)) w.heap.size zs := by
  show (w.heap.push _)[w.heap.size]? = _
  simp
/-- what is made is a row of noughts -/
theorem made_cells (n : Nat) : madeCells #[Value.int .u8 0] n = cellsOf (List.replicate n 0) := by
  apply Array.ext'
  rw [toList_madeCells_one]
  simp [cellsOf]
theorem cellsOf_set (zs : List Int) (i : Nat) (v : Int) : (cellsOf zs).setIfInBounds i (.int .u8 v) = cellsOf (zs.set i v) := by
  apply Array.ext'
  simp [cellsOf, List.map_set]
/-- the first k of zs, then noughts -/
def filled (zs : List Int) (k : Nat) : List Int := zs.take k ++ List.replicate (zs.length - k) 0
theorem filled_zero (zs : List Int) : filled zs 0 = List.replicate zs.length 0 := by simp [filled]
theorem filled_all (zs : List Int) : filled zs zs.length = zs := by simp [filled]
theorem filled_length (zs : List Int) (k : Nat) (h : k ≤ zs.length) : (filled zs k).length = zs.length := by simp [filled]; omega
theorem filled_set (zs : List Int) (k : Nat) (h : k < zs.length) : (filled zs k).set k (zs.getD k 0) = filled zs (k + 1) := by
  apply List.ext_getElem?
  intro j
  rw [List.getElem?_set]
  simp only [filled, List.length_append, List.length_take, List.length_replicate, List.getElem?_append, List.getElem?_take, List.getElem?_replicate]
  have e1 : min k zs.length = k := by omega
  have e2 : min (k + 1) zs.length = k + 1 := by omega
  rw [e1, e2]
  by_cases h1 : k = j
  · subst h1
    simp [h]
    omega
  · by_cases h2 : j < k
    · simp [h1, h2]; rw [if_pos (by omega), if_pos (by omega)]
    · simp [h1, h2]
      by_cases h3 : j < zs.length
      · rw [if_pos (by omega), if_neg (by omega), if_pos (by omega)]
      · rw [if_neg (by omega), if_neg (by omega), if_neg (by omega)]
/-- what a ring of s bytes from h on over the buffer zs holds -/
def ring (zs : List Int) (h s : Nat) : List Int := (List.range s).map fun i => zs.getD ((h + i) % zs.length) 0
theorem ring_length (zs : List Int) (h s : Nat) : (ring zs h s).length = s := by simp [ring]
theorem ring_getD (zs : List Int) (h s k : Nat) (hk : k < s) : (ring zs h s).getD k 0 = zs.getD ((h + k) % zs.length) 0 := by simp [ring, hk]
theorem mod_step_wrap (x l : Nat) (h : x % l + 1 = l) : (x + 1) % l = 0 := by
  rw [Nat.add_mod]
  by_cases h1 : l = 1
  · subst h1; simp; omega
  · rw [Nat.mod_eq_of_lt (show 1 < l by omega), h, Nat.mod_self]
theorem mod_step (x l : Nat) (hl : 0 < l) (h : x % l + 1 ≠ l) : (x + 1) % l = x % l + 1 := by
  have := Nat.mod_lt x hl
  rw [Nat.add_mod, Nat.mod_eq_of_lt (show 1 < l by omega), Nat.mod_eq_of_lt (by omega)]
/-- the ring without its first n: the ring from n further on -/
theorem ring_drop (zs : List Int) (h s n i : Nat) (hi : n + i < s) : (ring zs ((h + n) % zs.length) (s - n)).getD i 0 = (ring zs h s).getD (n + i) 0 := by
  rw [ring_getD _ _ _ _ (by omega), ring_getD _ _ _ _ (by omega)]
  congr 1
  rw [Nat.add_mod, Nat.mod_mod, ← Nat.add_mod, Nat.add_assoc]
end Go.Proofs.Qxb6604171a
