import Derived.Test.Qxb6604485aParts
namespace Go.Proofs.Qxb6604485a
open Go.RowKit
set_option linter.unusedVariables false

theorem bcell {W w1 : World} {B : Nat} (hb : Below B W w1) : (∀ b o, b < B → w1.cell? ⟨b, o, none⟩ = W.cell? ⟨b, o, none⟩) ∧ (∀ b o, b < B → w1.frozen? ⟨b, o, none⟩ = W.frozen? ⟨b, o, none⟩) :=
  ⟨fun b o h => hb.cell (p := ⟨b, o, none⟩) h, fun b o h => hb.frozen (p := ⟨b, o, none⟩) h⟩

set_option maxHeartbeats 1000000 in
/-- preemptMinRuntime -/
theorem preemptMin (w : World) (B : Nat) (p : Option Addr) (l : List (Option Int × Option Int)) (dp dr : Int) (m : ByteArray) (hB : B ≤ w.heap.size) (hc : Chain w B p l) :
    Calls Try.prog 48 #[.agg #[.int .i64 dp, .int .i64 dr, .string m, .int .i64 0], .pointer p] w fun e w' => (∃ nm, e = .returned (.agg #[.int .i64 (firstD dp (l.map (·.1))), .string nm])) ∧ Below w.heap.size w w' := by
  have HC : Hid (∀ w', Below w.heap.size w w' → Chain w' B p l) := fun w' hb => hc.below (hb.mono hB) (Nat.le_refl _)
  clear hc
  go_enter Try.func48, Try.ntmps48
  go_wp2_with fail
  have hb1 : Below w.heap.size w ((w.alloc (.cells #[.int .i64 dp, .int .i64 dr, .string m, .int .i64 0] 69)).alloc (.cells #[.int .i64 0, .string ⟨#[]⟩] 119)) := ((Below.refl _ _).alloc (Nat.le_refl _) _).alloc (by simp) _
  refine (firstSet_pre _ B p l dp (by have := hb1.size; omega) (HC.out _ hb1)).mono ?_
  clear HC
  rintro e w1 ⟨⟨nm, rfl⟩, hb⟩
  obtain ⟨hcl, hfr⟩ := bcell hb
  have hz : w.heap.size + 1 < w1.heap.size := by have := hb.size; simp at this; omega
  have hz2 : w.heap.size + 1 < ((w.alloc (.cells #[.int .i64 dp, .int .i64 dr, .string m, .int .i64 0] 69)).alloc (.cells #[.int .i64 0, .string ⟨#[]⟩] 119)).heap.size := by simp
  have k0 := hcl (w.heap.size + 1) 0 hz2
  have k1 := hcl (w.heap.size + 1) 1 hz2
  have f0 := hfr (w.heap.size + 1) 0 hz2
  have f1 := hfr (w.heap.size + 1) 1 hz2
  clear hcl hfr
  go_wp2
  refine bodyPost_ret (v := .agg #[.int .i64 (firstD dp (l.map (·.1))), .string nm]) (by simp [results, Try.results48, go_sem, k0, k1]) rfl ⟨⟨nm, rfl⟩, ?_⟩
  exact ((hb1.trans (hb.mono (by simp; omega))).setCell (by simp) _).setCell (by simp) _

/-- the first field of a MinRuntime -/
theorem field0 (n : Int) (nm : ByteArray) (w : World) : (Instr.field 119 (.agg #[.int .i64 n, .string nm]) 0).run Try.prog w = .ok (.int .i64 n) w := by kernel_rfl
/-- preemptProtection -/
theorem preemptProt (w : World) (B bs : Nat) (p j : Option Addr) (l : List (Option Int × Option Int)) (dp dr : Int) (m : ByteArray) (hB : B ≤ w.heap.size) (hc : Chain w B p l) (hst : StAt w bs dp dr m) :
    Calls Try.prog 41 #[.pointer (some ⟨bs, 0, none⟩), .pointer j, .pointer p] w fun e w' => e = .returned (.int .i64 (firstD dp (l.map (·.1)))) ∧ Below w.heap.size w w' := by
  obtain ⟨c3, c4, c5, c6⟩ := hst
  have HC : Hid (Chain w B p l) := hc
  clear hc
  go_enter Try.func41, Try.ntmps41
  go_wp2_with fail
  refine (preemptMin w B p l dp dr m hB HC.out).mono ?_
  rintro e w1 ⟨⟨nm, rfl⟩, hb⟩
  have hfd := field0
  go_wp2
  go_ret
  exact ⟨rfl, hb⟩

/-- preemptMinRuntimes: one number, in a new row of its own. -/
theorem preemptMins (w : World) (B bs : Nat) (p : Option Addr) (l : List (Option Int × Option Int)) (dp dr : Int) (m : ByteArray) (hB : B ≤ w.heap.size) (hc : Chain w B p l) (hst : StAt w bs dp dr m) :
    Calls Try.prog 36 #[.pointer (some ⟨bs, 0, none⟩), .pointer p] w fun e w' => ∃ g, e = .returned (.slice (some ⟨g, 0, none⟩) 1 1) ∧ w.heap.size ≤ g ∧ w'.heap[g]? = some (.cells #[.int .i64 (firstD dp (l.map (·.1)))] 49 (0, 0)) ∧ Below w.heap.size w w' := by
  have HP := preemptProt w B bs p none l dp dr m hB hc hst
  clear hst hc
  go_enter Try.func36, Try.ntmps36
  go_wp2_with fail
  refine HP.mono ?_
  clear HP
  rintro e w1 ⟨rfl, hb⟩
  go_wp2
  go_ret
  exact ⟨w1.heap.size, rfl, hb.size, heap_alloc_new w1 _, hb.alloc hb.size _⟩
end Go.Proofs.Qxb6604485a
