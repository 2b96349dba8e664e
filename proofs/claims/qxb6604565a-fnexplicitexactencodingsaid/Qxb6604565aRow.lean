import Derived.Test.Qxb6604565aRows
import Derived.WalkKit
import Derived.ProofKit
import Derived.ChangeOld
import Derived.Below
import Derived.WalkLawsBesides
import Derived.WalkSpells
import Derived.Deep.OwnRows
import Derived.Deep.QuietTactic
import Derived.BigQuiet
import Derived.Deep.RegionWith
import Derived.RegionTactic
import Derived.BigRegion
import Derived.LaidEqlPtr
import Derived.Deep.LoopGhost
import Derived.Laws.ResultCell
namespace Go.Proofs.Qxb6604565a
open Go.RowKit
set_option linter.unusedVariables false

theorem cell_of {w : World} {b j : Nat} {c : Array Value} {t : TypeId} {v : Value} (h : w.heap[b]? = some (.cells c t (0, 0))) (hj : c[j]? = some v) : w.cell? ⟨b, j, none⟩ = some v := by
  simp only [World.cell?, h]
  simpa using hj
theorem lt_of_cell {w : World} {a : Addr} {v : Value} (h : w.cell? a = some v) : a.block < w.heap.size := by
  unfold World.cell? at h
  by_cases hb : a.block < w.heap.size
  · exact hb
  · rw [Array.getElem?_eq_none (by omega)] at h
    simp at h
theorem Try.info5 : (Try.prog.info? 5).map (fun i => (i.zero, i.size, i.bytes)) = some (some (.int .u8 0), 1, 1) := by kernel_rfl
/-- block g is a row of cap cells of the element type t, none frozen, whose first cells are the numbers zs -/
def Row (t : TypeId) (w : World) (g cap : Nat) (zs : List Int) : Prop :=
  ∃ cur : Array Value, w.heap[g]? = some (.cells cur t (0, 0)) ∧ cur.size = cap ∧ zs.length ≤ cap ∧ ∀ j, j < zs.length → cur[j]? = some (.int .u8 (zs.getD j 0))
section
variable {t : TypeId} {w w' : World} {g cap : Nat} {zs : List Int}
theorem Row.cell (h : Row t w g cap zs) (j : Nat) (hj : j < zs.length) : w.cell? ⟨g, j, none⟩ = some (.int .u8 (zs.getD j 0)) := by
  obtain ⟨cur, h1, _, _, h4⟩ := h
  exact cell_of h1 (h4 j hj)
theorem Row.held (h : Row t w g cap zs) (j : Nat) (hj : j < cap) : ∃ v, w.cell? ⟨g, j, none⟩ = some v := by
  obtain ⟨cur, h1, h2, _, _⟩ := h
  exact ⟨cur[j]'(by omega), cell_of h1 (by simp [h2, hj])⟩
theorem Row.free (h : Row t w g cap zs) (j : Nat) : w.frozen? ⟨g, j, none⟩ = false := by
  obtain ⟨cur, h1, _⟩ := h
  exact frozen_of_row _ _ _ _ _ h1
theorem Row.lt (h : Row t w g cap zs) : g < w.heap.size := by
  obtain ⟨cur, h1, _⟩ := h
  exact (Array.getElem?_eq_some_iff.1 h1).1
theorem Row.le (h : Row t w g cap zs) : zs.length ≤ cap := by
  obtain ⟨cur, h1, _, h3, _⟩ := h
  exact h3
theorem Row.same (h : Row t w g cap zs) (e : w'.heap[g]? = w.heap[g]?) : Row t w' g cap zs := by
  obtain ⟨cur, h1, h2⟩ := h
  exact ⟨cur, by rw [e]; exact h1, h2⟩
theorem Row.below {B : Nat} (h : Row t w g cap zs) (hb : Below B w w') (hB : g < B) : Row t w' g cap zs := h.same (hb.block g hB)
theorem Row.grown {r : Option Nat} (h : Row t w g cap zs) (hb : w.grownBy w' r) (hr : some g ≠ r) : Row t w' g cap zs := h.same (hb.block g h.lt hr)
theorem Row.cutTo (h : Row t w g cap zs) (ys : List Int) (hl : ys.length ≤ zs.length) (he : ∀ j, j < ys.length → ys.getD j 0 = zs.getD j 0) : Row t w g cap ys := by
  obtain ⟨cur, h1, h2, h3, h4⟩ := h
  exact ⟨cur, h1, h2, by omega, fun j hj => by rw [h4 j (by omega), he j hj]⟩
/-- a store of the next number -/
theorem Row.push (h : Row t w g cap zs) (x : Int) (hl : zs.length < cap) : Row t (w.setCell ⟨g, zs.length, none⟩ (.int .u8 x)) g cap (zs ++ [x]) := by
  obtain ⟨cur, h1, h2, h3, h4⟩ := h
  refine ⟨_, heap_setCell_same w g zs.length cur t _ h1, by simpa using h2, by simp; omega, fun j hj => ?_⟩
  simp only [List.length_append, List.length_singleton] at hj
  rw [Array.getElem?_setIfInBounds]
  by_cases e : zs.length = j
  · subst e
    rw [if_pos rfl, if_pos (by omega)]
    simp
  · rw [if_neg e, h4 j (by omega)]
    simp [List.getElem?_append, show j < zs.length by omega]
/-- a store over one of the numbers -/
theorem Row.put (h : Row t w g cap zs) (j : Nat) (x : Int) : Row t (w.setCell ⟨g, j, none⟩ (.int .u8 x)) g cap (zs.set j x) := by
  obtain ⟨cur, h1, h2, h3, h4⟩ := h
  refine ⟨_, heap_setCell_same w g j cur t _ h1, by simpa using h2, by simpa using h3, fun i hi => ?_⟩
  simp only [List.length_set] at hi
  rw [Array.getElem?_setIfInBounds]
  by_cases e : j = i
  · subst e
    rw [if_pos rfl, if_pos (by omega)]
    simp [hi]
  · rw [if_neg e, h4 i hi]
    simp [e]
theorem Row.own {base : Nat} (h : w.ownsRow base t 1 (.slice (some ⟨g, 0, none⟩) zs.length cap) zs.length (zs.map (Value.int .u8))) : Row t w g cap zs := by
  rcases h.2 with ⟨h0, _⟩ | ⟨g', cap', cur, hv, hg, h1, hn, hcap, hs, ht⟩
  · cases h0
  cases hv
  refine ⟨cur, h1, by omega, hn, fun j hj => ?_⟩
  rw [Nat.mul_one] at ht
  have e : (cur.toList.take zs.length)[j]? = (zs.map (Value.int .u8))[j]? := by rw [ht]
  rw [List.getElem?_take_of_lt hj, Array.getElem?_toList] at e
  rw [e]
  simp [hj]
theorem Row.owns (h : Row t w g cap zs) (base : Nat) (hb : base ≤ g) (hm : cap ≤ maxLen) : w.ownsRow base t 1 (.slice (some ⟨g, 0, none⟩) zs.length cap) zs.length (zs.map (Value.int .u8)) := by
  obtain ⟨cur, h1, h2, h3, h4⟩ := h
  refine ⟨by simp, .inr ⟨g, cap, cur, rfl, hb, h1, h3, hm, by omega, ?_⟩⟩
  apply List.ext_getElem?
  intro j
  rw [Nat.mul_one]
  by_cases hj : j < zs.length
  · rw [List.getElem?_take_of_lt hj, Array.getElem?_toList, h4 j hj]
    simp [hj]
  · rw [List.getElem?_take_eq_none (by omega), List.getElem?_eq_none (by simp; omega)]
theorem grownBy_trans {a b c : World} {r : Option Nat} (h : a.grownBy b r) (k : b.grownBy c r) : a.grownBy c r :=
  ⟨k.os.trans h.os, k.tape.trans h.tape, k.output.trans h.output, Nat.le_trans h.size k.size, fun i hi hr => (k.block i (Nat.lt_of_lt_of_le hi h.size) hr).trans (h.block i hi hr)⟩
theorem grownBy_alloc' (w : World) (o : Obj) (r : Option Nat) : w.grownBy (w.alloc o) r := ⟨rfl, rfl, rfl, by simp, fun k hk _ => Below.heap_alloc w o k hk⟩
theorem grownBy_setCell (w : World) (g j : Nat) (v : Value) : w.grownBy (w.setCell ⟨g, j, none⟩ v) (some g) := ⟨rfl, rfl, rfl, by simp, fun k _ hr => Below.heap_setCell w _ v k (fun e => hr (by simp [e]))⟩
end

/-- 'append' of ONE number within the capacity: the very world. -/
theorem wpList_append_one {P : Program} (w : World) {ops : Array Oper} {rest : List Oper} {o : Oper} {a : Act} {Q : Exit → Act → World → Prop}
    (hg : o.guard = none) (s x : Operand) (t : TypeId) (hop : o.op = Op.call { callee := Callee.builtin Builtin.append, args := #[s, x], argTypes := #[t, t] })
    (e : TypeId) (i : TypeInfo) (h1 : P.underlying t = some (.slice e)) (h2 : P.info? e = some i) (h4 : i.size = 1)
    (g cap : Nat) (zs : List Int) (k : Nat) (hk : k = zs.length) (hs : a.eval s = .slice (some ⟨g, 0, none⟩) k cap) (hrow : Row e w g cap zs) (b c : Nat) (v : Int) (hx : a.eval x = .slice (some ⟨b, 0, none⟩) 1 c)
    (hv : w.cell? ⟨b, 0, none⟩ = some (.int .u8 v)) (hroom : zs.length < cap)
    (hK : wpList P ops Q rest (a.put o.dst (.slice (some ⟨g, 0, none⟩) (k + 1) cap)) (w.setCell ⟨g, k, none⟩ (.int .u8 v))) :
    wpList P ops Q (o :: rest) a w := by
  subst hk
  refine wpList_plain hg fun K hK' => ?_
  obtain ⟨cur, r1, r2, r3, r4⟩ := hrow
  have hrun := run_append_room (P := P) w t o.type e i h1 h2 g zs.length cap cur r1 ⟨b, 0, none⟩ 1 c [.int .u8 v] (by simp [h4])
    (fun j u hj => by
      match j, hj with
      | 0, hj => simp at hj; subst hj; simpa [Addr.add] using hv) (by intro u hu; simp at hu; subst hu; rfl) (by omega) (by rw [h4]; simp; omega)
  have ew : w.setRow g (cur.toList.take (zs.length * i.size) ++ [Value.int .u8 v] ++ cur.toList.drop (zs.length * i.size + [Value.int .u8 v].length)).toArray = w.setCell ⟨g, zs.length, none⟩ (.int .u8 v) := by
    have er : (cur.toList.take (zs.length * i.size) ++ [Value.int .u8 v] ++ cur.toList.drop (zs.length * i.size + [Value.int .u8 v].length)).toArray = cur.setIfInBounds zs.length (.int .u8 v) := by
      apply Array.ext'
      rw [Array.toList_setIfInBounds, List.set_eq_take_append_cons_drop, h4, Nat.mul_one, if_pos (by simp; omega)]
      simp
    rw [er]
    have hgl : g < w.heap.size := (Array.getElem?_eq_some_iff.1 r1).1
    have r1' := (Array.getElem?_eq_some_iff.1 r1).2
    unfold World.setRow World.setCell
    congr 1
    apply Array.ext
    · simp
    · intro j hj1 hj2
      simp only [Array.getElem_modify]
      by_cases e : g = j
      · subst e
        simp [r1']
      · simp [e]
  rw [ew] at hrun
  unfold Oper.wp
  simp [execOp, hop, resolve, invoke, builtin, hs, hx, hrun, Result.andThen]
  exact hK' _ _ hK
/-- a slice that leads to the bytes zs (of an empty one nothing is known) -/
def Byt (w : World) (a : Option Addr) (zs : List Int) : Prop := 0 < zs.length → ∃ b off, a = some ⟨b, off, none⟩ ∧ b < w.heap.size ∧ ∀ j, j < zs.length → w.cell? ⟨b, off + j, none⟩ = some (.int .u8 (zs.getD j 0))
theorem Row.byt {t : TypeId} {w : World} {g cap : Nat} {zs : List Int} (h : Row t w g cap zs) : Byt w (some ⟨g, 0, none⟩) zs := fun _ => ⟨g, 0, rfl, h.lt, fun j hj => by rw [Nat.zero_add]; exact h.cell j hj⟩
theorem Byt.below {w w' : World} {a : Option Addr} {zs : List Int} (h : Byt w a zs) (hb : Below w.heap.size w w') : Byt w' a zs := fun h0 => by
  obtain ⟨b, off, e, hl, hc⟩ := h h0
  exact ⟨b, off, e, Nat.lt_of_lt_of_le hl hb.size, fun j hj => (hb.cell (p := ⟨b, off + j, none⟩) hl).trans (hc j hj)⟩
theorem Byt.drewN {w : World} {a : Option Addr} {zs : List Int} (h : Byt w a zs) (n : Nat) : Byt (w.drewN n) a zs := h
end Go.Proofs.Qxb6604565a
