import Derived.Test.Qxb6604485aPre
import Derived.Test.Qxb6604485aShelf
import Derived.Lib.RowBridge
import Derived.Lib.SortBridge
import Derived.Sort.LotA
import Derived.Sort.OwnSortedInts
namespace Go.Proofs.Qxb6604485a
open Go.Shelf Go.RowKit Go.Lib
open Go.Sort (Holds grow putRow ltInt swo_ltInt PermIn SortedIn alloc_eq_grow size_grow holds_grow holds_ahead putRow_grow cell?_putRow_other cell?_grow cell?_putRow grow_grow ahead_grow sorted_unique_holds)
set_option linter.unusedVariables false

theorem Try.desc46 : (Try.prog.info? 46).map (fun i => i.desc) = some (.slice 49) := by kernel_rfl
theorem Try.info49 : (Try.prog.info? 49).map (fun i => (i.size, i.bytes, i.hasPointers)) = some (1, 8, false) := by kernel_rfl

theorem ints_sorted_eq (d d' : Array Int) (hp : PermIn 0 d.size d d') (hs : SortedIn ltInt 0 d.size d') : d' = (d.toList.mergeSort fun x y => decide (x ≤ y)).toArray := by
  have h := sorted_unique_holds (lt := ltInt) swo_ltInt (fun x y h1 h2 => by simp only [ltInt, decide_eq_false_iff_not] at h1 h2; omega) d d' hp hs
  have e : (fun x y : Int => !ltInt y x) = fun x y => decide (x ≤ y) := by
    funext x y
    simp only [ltInt]
    by_cases h : x ≤ y
    · simp [h]
    · simp [h]; omega
  rw [e] at h
  rw [← h]

set_option maxHeartbeats 2000000 in
/-- the closure of ascending: 'ds[a] < ds[b]', bound to a pointer to the boxed ds -/
theorem less_ds (blk off c Bs size : Nat) (W : World) (G : Nat → Int) (hs : W.cell? ⟨Bs, 0, none⟩ = some (.slice (some ⟨blk, off, none⟩) size c))
    (hc : ∀ t, t < size → W.cell? ⟨blk, off + t, none⟩ = some (.int .i64 (G t))) (i j : Nat) (hi : i < size) (hj : j < size) :
    Calls Try.prog 45 #[.int .i64 i, .int .i64 j, .pointer (some ⟨Bs, 0, none⟩)] W fun e w' => e = .returned (.bool (decide (G i < G j))) ∧ ∃ q, w' = W.drewN q := by
  have ci := hc i hi
  have cj := hc j hj
  go_enter Try.func45, Try.ntmps45
  go_wp2
  go_quiet (fail)
  go_wp2
  go_ret
  exact ⟨rfl, nq, rfl⟩

set_option maxHeartbeats 2000000 in
/-- sort.Slice over two elements or more -/
theorem sort_two (g c Bs : Nat) (d : Array Int) (h2 : 2 ≤ d.size) (h12 : d.size < 4611686018427387904) (w : World) (hH : Holds (Value.int .i64) w g 0 d) (hg : g < w.heap.size) (hne : g ≠ Bs) (hBs : w.cell? ⟨Bs, 0, none⟩ = some (.slice (some ⟨g, 0, none⟩) d.size c)) :
    Calls Try.prog 44 #[.iface 46 (.slice (some ⟨g, 0, none⟩) d.size c), .func (.func 45) #[] #[.pointer (some ⟨Bs, 0, none⟩)]] w fun e w' =>
      e = .returned (.tuple #[]) ∧ ∃ n os, w' = grow (putRow (Value.int .i64) (Sort.ahead w n) g 0 (d.toList.mergeSort fun x y => decide (x ≤ y)).toArray) os := by
  have hless : LessReads Try.prog 45 #[.pointer (some ⟨Bs, 0, none⟩)] (Value.int .i64) ltInt g 0 d.size w := by
    intro m os dk hs i j hi hj
    have e : sortWorld (Value.int .i64) w g 0 m dk os = putRow (Value.int .i64) (grow (Sort.ahead w m) os) g 0 dk := by
      unfold sortWorld; rw [putRow_grow _ (Sort.ahead w m) _ g 0 _ hg]
    have hHg : Holds (Value.int .i64) (grow (Sort.ahead w m) os) g 0 d := holds_grow _ _ _ g 0 d hg (holds_ahead _ _ _ _ _ _ hH)
    refine less_ds g 0 c Bs d.size _ (fun t => dk[t]!) ?_ (fun t ht => ?_) i j hi hj
    · rw [e, cell?_putRow_other _ _ g 0 dk _ (Or.inl (by show Bs ≠ g; omega)), cell?_grow _ _ _ (by exact lt_of_cell hBs)]
      exact hBs
    · rw [e]; exact cell?_putRow _ _ g 0 d dk hHg hs t (by rw [hs]; exact ht)
  obtain ⟨iT, hT, dT⟩ := Option.map_eq_some_iff.1 Try.desc46
  obtain ⟨iE, hE, dE⟩ := Option.map_eq_some_iff.1 Try.info49
  simp only [Prod.mk.injEq] at dE
  obtain ⟨z1, z2, z3⟩ := dE
  have hK : Lib.swapperK d.size iE 6 = 5 := by
    have c1 : (d.size == 0) = false := beq_false_of_ne (by omega)
    have c2 : (d.size == 1) = false := beq_false_of_ne (by omega)
    rw [Lib.swapperK, c1, c2, z2, z3]; rfl
  have hS := Any.sort_Slice_sorted Try.sa6 46 49 iT iE hT dT (by kernel_rfl) hE 6 (fun _ => by kernel_rfl) z1 (fun _ => by kernel_rfl) (Value.int .i64) (fun _ => rfl) ltInt swo_ltInt 45 _
    (enters_of Try.func45 (by kernel_rfl) rfl) g 0 c d h2 h12 59 (by rw [hK]; kernel_rfl) true
    (fun args W => run_callFunc_extern Try.func59 (by kernel_rfl) (by kernel_rfl) (by kernel_rfl) (e := Extern.ReflectliteSwapper.swap true) (by kernel_rfl) args W) _ hless hH hg
  change Calls Try.prog 44 _ _ _ at hS
  refine hS.mono ?_
  rintro e w' ⟨rfl, d', n, os, hp, hso, rfl⟩
  rw [ints_sorted_eq d d' hp hso]
  exact ⟨rfl, n, os, rfl⟩

set_option maxHeartbeats 2000000 in
/-- sort.Slice over no element or one -/
theorem sort_tiny (p : Option Addr) (n c Bs : Nat) (h1 : n ≤ 1) (w : World) :
    Calls Try.prog 44 #[.iface 46 (.slice p n c), .func (.func 45) #[] #[.pointer (some ⟨Bs, 0, none⟩)]] w fun e w' => e = .returned (.tuple #[]) ∧ ∃ os, w' = grow w os := by
  obtain ⟨iT, hT, dT⟩ := Option.map_eq_some_iff.1 Try.desc46
  obtain ⟨iE, hE, dE⟩ := Option.map_eq_some_iff.1 Try.info49
  have hK : Lib.swapperK n iE 6 = n + 1 := by
    rcases Nat.eq_zero_or_pos n with h | h
    · subst h; simp [Lib.swapperK]
    · obtain rfl : n = 1 := by omega
      simp [Lib.swapperK]
  have hS := Any.sort_Slice_tiny Try.sa6 46 49 iT iE hT dT (by kernel_rfl) hE 6 (fun _ => by kernel_rfl) p n c h1 (55 + n) (by
    rw [hK]
    rcases Nat.eq_zero_or_pos n with h | h
    · subst h; kernel_rfl
    · obtain rfl : n = 1 := by omega
      kernel_rfl) (.func 45) #[] #[.pointer (some ⟨Bs, 0, none⟩)] w
  exact hS
end Go.Proofs.Qxb6604485a
