import Derived.Test.Qxb6604343aRows
import Derived.WalkKit
import Derived.ProofKit
import Derived.ChangeOld
import Derived.Below
import Derived.WalkLawsBesides
import Derived.WalkSpells
import Derived.Deep.OwnRows
import Derived.Deep.QuietTactic
import Derived.BigQuiet
import Derived.Deep.RegionWith
import Derived.RegionTactic
import Derived.BigRegion
import Derived.LaidEqlPtr

namespace Go.Proofs.Qxb6604343a
open Go.RowKit
set_option linter.unusedVariables false

def poolObj (m : Int) : Obj := .cells #[.int .i64 m, .int .i32 0, .int .u32 0, .int .i64 0, .pointer none, .pointer none, .pointer none, .nilIface, .int .i64 0] 75
def fileObj (p : Addr) (s : ByteArray) : Obj := .cells #[.pointer (some p), .string s, .int .i32 0, .int .u32 0, .pointer none, .int .i64 0, .pointer none, .nilIface] 81

theorem pool_new (w : World) (m : Int) : Calls Try.prog 17 #[.int .i64 m] w fun e w' => e = .returned (.pointer (some ⟨w.heap.size, 0, none⟩)) ∧ w' = w.alloc (poolObj m) := by
  go_enter Try.func17, Try.ntmps17
  go_wp2
  go_ret
  exact ⟨rfl, rfl⟩
theorem file_new (w : World) (p : Addr) (s : ByteArray) : Calls Try.prog 18 #[.pointer (some p), .string s] w fun e w' => e = .returned (.pointer (some ⟨w.heap.size, 0, none⟩)) ∧ w' = w.alloc (fileObj p s) := by
  go_enter Try.func18, Try.ntmps18
  go_wp2
  go_ret
  exact ⟨rfl, rfl⟩

theorem cell_of {w : World} {b j : Nat} {c : Array Value} {t : TypeId} {v : Value} (h : w.heap[b]? = some (.cells c t (0, 0))) (hj : c[j]? = some v) : w.cell? ⟨b, j, none⟩ = some v := by
  simp only [World.cell?, h]
  simpa using hj

theorem file_state (w : World) (b : Nat) (p : Addr) (s : ByteArray) (h : w.heap[b]? = some (fileObj p s)) :
    Calls Try.prog 19 #[.pointer (some ⟨b, 0, none⟩)] w fun e w' => e = .returned (.tuple #[.bool true, .pointer (some p), .string s, .bool false, .int .i64 0, .bool false, .bool false]) ∧ ∃ nq, w' = w.drewN nq := by
  have c0 : w.cell? ⟨b, 0, none⟩ = some (.pointer (some p)) := cell_of h rfl
  have c1 : w.cell? ⟨b, 1, none⟩ = some (.string s) := cell_of h rfl
  have c4 : w.cell? ⟨b, 4, none⟩ = some (.pointer none) := cell_of h rfl
  have c5 : w.cell? ⟨b, 5, none⟩ = some (.int .i64 0) := cell_of h rfl
  have c6 : w.cell? ⟨b, 6, none⟩ = some (.pointer none) := cell_of h rfl
  have c7 : w.cell? ⟨b, 7, none⟩ = some .nilIface := cell_of h rfl
  clear h
  go_enter Try.func19, Try.ntmps19
  go_wp2
  go_quiet (fail)
  go_wp2
  refine bodyPost_ret (v := .tuple #[.bool true, .pointer (some p), .string s, .bool false, .int .i64 0, .bool false, .bool false]) (by simp [results, Try.results19, go_sem]) rfl ⟨rfl, nq, rfl⟩
theorem pool_state (w : World) (b : Nat) (m : Int) (h : w.heap[b]? = some (poolObj m)) :
    Calls Try.prog 20 #[.pointer (some ⟨b, 0, none⟩)] w fun e w' => e = .returned (.tuple #[.int .i64 m, .int .i64 0, .int .i64 0]) ∧ ∃ nq, w' = w.drewN nq := by
  have c0 : w.cell? ⟨b, 0, none⟩ = some (.int .i64 m) := cell_of h rfl
  have c3 : w.cell? ⟨b, 3, none⟩ = some (.int .i64 0) := cell_of h rfl
  have c8 : w.cell? ⟨b, 8, none⟩ = some (.int .i64 0) := cell_of h rfl
  have hlen : ∀ w : World, w.cell? ⟨b, 8, none⟩ = some (.int .i64 0) → Calls Try.prog 24 #[.pointer (some ⟨b, 4, none⟩)] w fun e w' => e = .returned (.int .i64 0) ∧ w' = w := fun w c8 => by
    go_enter Try.func24, Try.ntmps24
    go_wp2
    go_ret
    exact ⟨rfl, rfl⟩
  clear h
  go_enter Try.func20, Try.ntmps20
  go_wp2
  go_quiet ((go_at_call 24; exact Calls.quiet_of_same (hlen _ c8)))
  go_wp2
  go_ret3
  exact ⟨rfl, nq, rfl⟩

/-- what is known of the slice of strings: where it has an element, its cells hold the strings -/
def Strs (w : World) (a : Option Addr) (ss : List ByteArray) : Prop :=
  0 < ss.length → ∃ b off, a = some ⟨b, off, none⟩ ∧ ∀ j, j < ss.length → w.cell? ⟨b, off + j, none⟩ = some (.string (ss.getD j ByteArray.empty))

/-- some bool is handed back -/
def Answers (e : Ending) : Prop := ∃ r : Bool, e = .returned (.bool r)
theorem Answers.mk (r : Bool) : Answers (.returned (.bool r)) := ⟨r, rfl⟩

set_option maxHeartbeats 400000 in
/-- zzBytes: it answers, and turns nothing. -/
theorem bytes_any (w : World) (m : Int) (a : Option Addr) (cap : Nat) (ss : List ByteArray) (hs : Strs w a ss) (hl : ss.length ≤ maxLen) :
    Calls Try.prog 16 #[.int .i64 m, .slice a ss.length cap] w fun e w' => Answers e ∧ w = w' := by
  unfold maxLen at hl
  obtain ⟨n, hn⟩ : ∃ n, Hid (n = ss.length) := ⟨_, rfl⟩
  have HS : Hid (Strs w a ss) := hs
  clear hs
  rw [← hn.out] at hl ⊢
  by_cases hlong : 1048576 < n
  · go_enter Try.func16, Try.ntmps16
    go_wp2
    go_ret
    exact ⟨Answers.mk _, rfl⟩
  go_enter Try.func16, Try.ntmps16
  go_wp2
  go_loop [5, 6] (fun z i => ∃ (k : Nat) (t : Int), k ≤ n ∧ i = .int .i64 k ∧ z = .int .i64 t) (fun _ i => n - (intOf i).toNat)
  case atStart => exact ⟨0, _, Nat.zero_le _, rfl, rfl⟩
  case round =>
    obtain ⟨k, t, hk, rfl, rfl⟩ := hrel
    by_cases hlt : k < n
    · obtain ⟨b, off, ea, hc⟩ := HS.out (by rw [← hn.out]; omega)
      have hck := hc k (by rw [← hn.out]; exact hlt)
      obtain ⟨s, hs⟩ : ∃ s, s = ss.getD k ByteArray.empty := ⟨_, rfl⟩
      rw [← hs] at hck
      clear hs hc
      subst ea
      go_wp2
      · go_ret
        exact ⟨Answers.mk _, rfl⟩
      · go_ret
        exact ⟨Answers.mk _, rfl⟩
      · go_round
        case rel => exact ⟨k + 1, _, by omega, by go_num, rfl⟩
        case measure => simp [intOf]; omega
    · go_wp2
      go_ret
      exact ⟨Answers.mk _, rfl⟩
end Go.Proofs.Qxb6604343a
