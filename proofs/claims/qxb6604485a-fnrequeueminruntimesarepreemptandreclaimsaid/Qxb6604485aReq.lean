import Derived.Test.Qxb6604485aRecl
namespace Go.Proofs.Qxb6604485a
open Go.RowKit
set_option linter.unusedVariables false

/-- what requeueMinRuntimes hands back -/
def reqs (dp dr : Int) (m : ByteArray) (l : List (Option Int × Option Int)) : List Int := asc (firstD dp (l.map (·.1)) :: asc (recls (isQ m) dr (l.map (·.2))))
theorem reqs_asc (dp dr : Int) (m : ByteArray) (l : List (Option Int × Option Int)) : Asc (reqs dp dr m l) := asc_asc _
theorem reqs_mem (dp dr : Int) (m : ByteArray) (l : List (Option Int × Option Int)) (a : Int) : a ∈ reqs dp dr m l ↔ a = firstD dp (l.map (·.1)) ∨ a ∈ recls (isQ m) dr (l.map (·.2)) := by
  unfold reqs
  rw [asc_mem, List.mem_cons, asc_mem]

set_option maxHeartbeats 2000000 in
set_option maxRecDepth 100000 in
theorem requeueMins (w : World) (B bs : Nat) (p : Option Addr) (l : List (Option Int × Option Int)) (dp dr : Int) (m : ByteArray) (hB : B ≤ w.heap.size) (hbs : bs < B) (hc : Chain w B p l) (hst : StAt w bs dp dr m) (hl0 : 0 < l.length) (hl : l.length ≤ 1024) :
    Calls Try.prog 35 #[.pointer (some ⟨bs, 0, none⟩), .pointer p] w fun e w' => ∃ g cap, e = .returned (.slice (some ⟨g, 0, none⟩) (reqs dp dr m l).length cap) ∧ w.heap.size ≤ g ∧ Row 49 w' g cap (reqs dp dr m l) ∧ Below w.heap.size w w' := by
  obtain ⟨i0, hi, hz0, hz1, hz2⟩ := info_parts Try.info49z
  have HP := preemptMins w B bs p l dp dr m hB hc hst
  have HR := fun (w1 : World) (hb : Below w.heap.size w w1) => reclaimMins w1 B bs p l dp dr m (Nat.le_trans hB hb.size) hbs (hc.below (hb.mono hB) (Nat.le_refl _)) (hst.below hb (by omega)) hl0 hl
  have hRl : (asc (recls (isQ m) dr (l.map (·.2)))).length ≤ 1024 := by
    have h1 := asc_length (recls (isQ m) dr (l.map (·.2)))
    have h2 := recls_length (isQ m) dr (l.map (·.2))
    simp at h2
    omega
  obtain ⟨R, eR⟩ : ∃ R, Hid (R = asc (recls (isQ m) dr (l.map (·.2)))) := ⟨_, rfl⟩
  obtain ⟨v, ev⟩ : ∃ v, Hid (v = firstD dp (l.map (·.1))) := ⟨_, rfl⟩
  have EQ : Hid (reqs dp dr m l = asc (v :: R)) := by show _ = _; rw [ev.out, eR.out]; rfl
  simp only [← eR.out] at HR hRl
  simp only [← ev.out] at HP
  rw [EQ.out]
  clear hc hst EQ
  go_enter Try.func35, Try.ntmps35
  go_wp2_with fail
  refine HP.mono ?_
  clear HP
  rintro e w1 ⟨g1, rfl, hg1, hh1, hb1⟩
  have HRw := HR w1 hb1
  clear HR
  have row1 : Row 49 w1 g1 1 [v] := ⟨_, hh1, rfl, by simp, fun j hj => by
    match j, hj with
    | 0, _ => simp⟩
  clear hh1
  go_wp2_with fail
  refine HRw.mono ?_
  clear HRw
  rintro e w2 ⟨g2, cap2, rfl, hg2, hcap2, row2, hb2⟩
  have row1' : Row 49 w2 g1 1 [v] := row1.below hb2 row1.lt
  have own1 : w2.ownsRow w.heap.size 49 1 (.slice (some ⟨g1, 0, none⟩) 1 1) 1 [.int .i64 v] := row1'.owns w.heap.size hg1 (by unfold maxLen; omega)
  have hbw2 : Below w.heap.size w w2 := hb1.trans (hb2.mono hb1.size)
  have hsz2 : w.heap.size ≤ w2.heap.size := hbw2.size
  have Hbw2 : Hid (Below w.heap.size w w2) := hbw2
  have Own1 : Hid (w2.ownsRow w.heap.size 49 1 (.slice (some ⟨g1, 0, none⟩) 1 1) 1 [.int .i64 v]) := own1
  have Row2 : Hid (Row 49 w2 g2 cap2 R) := row2
  clear row1 row1' own1 hbw2 hb1 hb2 row2
  go_wp2_with (at_builtin; refine wpList_append_own _ rfl _ _ 46 rfl w.heap.size 49 i0 (.int .i64 0) 1 8 Try.underlying46 hi hz0 hz1 hz2 rfl (by decide) _ _ _ rfl Own1.out ⟨g2, 0, none⟩ R.length cap2 (R.map (Value.int .i64)) rfl ?c0 ?c1 ?c2 ?c3 ?c4 ?c5 ?_)
  case c0 => simp
  case c1 =>
    intro j u hj
    have hjl : j < R.length := by have := (List.getElem?_eq_some_iff.1 hj).1; simpa using this
    rw [show (⟨g2, 0, none⟩ : Addr).add j = ⟨g2, j, none⟩ by have := Go.WideShapes.add_plain g2 0 j; simpa using this, Row2.out.cell j hjl, ← hj]
    simp [hjl]
  case c2 => intro u hu; simp at hu; obtain ⟨a, _, rfl⟩ := hu; rfl
  case c3 => unfold maxLen; omega
  case c4 => omega
  case c5 => exact hsz2
  intro v' w3 hown3 hgr3 _
  have hbw3 : Below w.heap.size w w3 := below_own Hbw2.out hsz2 Own1.out hgr3
  have own3 : w3.ownsRow w.heap.size 49 1 v' (v :: R).length ((v :: R).map (Value.int .i64)) := by
    have e : 1 + R.length = (v :: R).length := by simp; omega
    rw [e] at hown3
    simpa using hown3
  have hA := asc_own w.heap.size w3 v' (v :: R) (by simp) (by simp; omega) own3
  clear hown3 hgr3 own3 Own1 Row2
  go_wp2_with fail
  refine hA.mono ?_
  clear hA
  rintro e w4 ⟨g, cap, rfl, hg, hcap, hrow, hgr⟩
  go_wp2
  go_ret
  exact ⟨g, cap, rfl, hg, hrow, below_row hbw3 hbw3.size hg hgr⟩

/-- ZZrequeueMinRuntimes -/
theorem zzRequeue (w : World) (B bs : Nat) (p : Option Addr) (l : List (Option Int × Option Int)) (dp dr : Int) (m : ByteArray) (hB : B ≤ w.heap.size) (hbs : bs < B) (hc : Chain w B p l) (hst : StAt w bs dp dr m) (hl0 : 0 < l.length) (hl : l.length ≤ 1024) :
    Calls Try.prog 25 #[.pointer (some ⟨bs, 0, none⟩), .pointer p] w fun e w' => ∃ g cap, e = .returned (.slice (some ⟨g, 0, none⟩) (reqs dp dr m l).length cap) ∧ w.heap.size ≤ g ∧ Row 49 w' g cap (reqs dp dr m l) ∧ Below w.heap.size w w' := by
  have H := requeueMins w B bs p l dp dr m hB hbs hc hst hl0 hl
  clear hc hst
  go_enter Try.func25, Try.ntmps25
  go_wp2_with fail
  refine H.mono ?_
  clear H
  rintro e w4 ⟨g, cap, rfl, hg, hrow, hb⟩
  go_wp2
  go_ret
  exact ⟨g, cap, rfl, hg, hrow, hb⟩
/-- ZZpreemptMinRuntimes -/
theorem zzPreempt (w : World) (B bs : Nat) (p : Option Addr) (l : List (Option Int × Option Int)) (dp dr : Int) (m : ByteArray) (hB : B ≤ w.heap.size) (hc : Chain w B p l) (hst : StAt w bs dp dr m) :
    Calls Try.prog 26 #[.pointer (some ⟨bs, 0, none⟩), .pointer p] w fun e w' => ∃ g, e = .returned (.slice (some ⟨g, 0, none⟩) 1 1) ∧ w.heap.size ≤ g ∧ Row 49 w' g 1 [firstD dp (l.map (·.1))] ∧ Below w.heap.size w w' := by
  have H := preemptMins w B bs p l dp dr m hB hc hst
  clear hc hst
  go_enter Try.func26, Try.ntmps26
  go_wp2_with fail
  refine H.mono ?_
  clear H
  rintro e w4 ⟨g, rfl, hg, hh, hb⟩
  go_wp2
  go_ret
  refine ⟨g, rfl, hg, ⟨_, hh, rfl, by simp, fun j hj => ?_⟩, hb⟩
  match j, hj with
  | 0, _ => simp
end Go.Proofs.Qxb6604485a
