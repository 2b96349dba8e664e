import Derived.Test.Qxb6604485aRows
import Derived.WalkKit
import Derived.ProofKit
import Derived.ChangeOld
import Derived.Below
import Derived.WalkLawsBesides
import Derived.WalkSpells
import Derived.Deep.OwnRows
import Derived.Deep.QuietTactic
import Derived.BigQuiet
import Derived.Deep.RegionWith
import Derived.RegionTactic
import Derived.BigRegion
import Derived.LaidEqlPtr
import Derived.Deep.LoopGhost
import Derived.Laws.ResultCell
namespace Go.Proofs.Qxb6604485a
open Go.RowKit
set_option linter.unusedVariables false

theorem cell_of {w : World} {b j : Nat} {c : Array Value} {t : TypeId} {v : Value} (h : w.heap[b]? = some (.cells c t (0, 0))) (hj : c[j]? = some v) : w.cell? ⟨b, j, none⟩ = some v := by
  simp only [World.cell?, h]
  simpa using hj
theorem lt_of_cell {w : World} {a : Addr} {v : Value} (h : w.cell? a = some v) : a.block < w.heap.size := by
  unfold World.cell? at h
  by_cases hb : a.block < w.heap.size
  · exact hb
  · rw [Array.getElem?_eq_none (by omega)] at h
    simp at h

/-- a pointer to a duration below block B: nil, or to a cell that holds it -/
def DurAt (w : World) (B : Nat) (p : Option Addr) : Option Int → Prop
  | none => p = none
  | some x => ∃ b, b < B ∧ p = some ⟨b, 0, none⟩ ∧ w.cell? ⟨b, 0, none⟩ = some (.int .i64 x)
/-- a chain of queues below block B: of each its preempt and its reclaim setting -/
def Chain (w : World) (B : Nat) : Option Addr → List (Option Int × Option Int) → Prop
  | p, [] => p = none
  | p, x :: r => ∃ b bq pp rp nm par, p = some ⟨b, 0, none⟩ ∧ b < B ∧ bq < B ∧ w.cell? ⟨b, 0, none⟩ = some (.pointer (some ⟨bq, 0, none⟩)) ∧ w.cell? ⟨b, 1, none⟩ = some (.pointer par) ∧
      w.cell? ⟨bq, 0, none⟩ = some (.string nm) ∧ w.cell? ⟨bq, 4, none⟩ = some (.pointer pp) ∧ w.cell? ⟨bq, 5, none⟩ = some (.pointer rp) ∧ DurAt w B pp x.1 ∧ DurAt w B rp x.2 ∧ Chain w B par r
theorem DurAt.below {w w' : World} {B B' : Nat} {p : Option Addr} {d : Option Int} (h : DurAt w B p d) (hb : Below B w w') (hB : B ≤ B') : DurAt w' B' p d := by
  cases d with
  | none => exact h
  | some x =>
    obtain ⟨b, h1, h2, h3⟩ := h
    exact ⟨b, by omega, h2, (hb.cell (p := ⟨b, 0, none⟩) h1).trans h3⟩
theorem Chain.below {w w' : World} {B B' : Nat} (hb : Below B w w') (hB : B ≤ B') : ∀ {l : List (Option Int × Option Int)} {p : Option Addr}, Chain w B p l → Chain w' B' p l
  | [], _, h => h
  | x :: r, p, h => by
    obtain ⟨b, bq, pp, rp, nm, par, h1, h2, h3, h4, h5, h6, h7, h8, h9, h10, h11⟩ := h
    exact ⟨b, bq, pp, rp, nm, par, h1, by omega, by omega, (hb.cell (p := ⟨b, 0, none⟩) h2).trans h4, (hb.cell (p := ⟨b, 1, none⟩) h2).trans h5, (hb.cell (p := ⟨bq, 0, none⟩) h3).trans h6, (hb.cell (p := ⟨bq, 4, none⟩) h3).trans h7, (hb.cell (p := ⟨bq, 5, none⟩) h3).trans h8,
      h9.below hb hB, h10.below hb hB, Chain.below hb hB h11⟩

/-- the setting nearest on the way up, the default where none is set -/
def firstD (dflt : Int) : List (Option Int) → Int
  | [] => dflt
  | some x :: _ => x
  | none :: r => firstD dflt r

theorem dur_new (w : World) (d : Int) : Calls Try.prog 33 #[.int .i64 d] w fun e w' => e = .returned (.pointer (some ⟨w.heap.size, 0, none⟩)) ∧ w' = w.alloc (.cells #[.int .i64 d] 49) := by
  go_enter Try.func33, Try.ntmps33
  go_wp2
  go_ret
  exact ⟨rfl, rfl⟩

set_option maxHeartbeats 1000000 in
/-- firstSet at reclaimSetting: the setting nearest on the way up. -/
theorem firstSet_rec (w : World) (B : Nat) (p : Option Addr) (l : List (Option Int × Option Int)) (d : Int) (hB : B ≤ w.heap.size) (hc : Chain w B p l) :
    Calls Try.prog 46 #[.pointer p, .func (.func 47) #[] #[], .int .i64 d] w fun e w' => (∃ nm, e = .returned (.agg #[.int .i64 (firstD d (l.map (·.2))), .string nm])) ∧ Below w.heap.size w w' := by
  have HC : Hid (Chain (w.alloc (.cells #[.int .i64 0, .string ⟨#[]⟩] 119)) B p l) := by
    refine Chain.below ?_ (Nat.le_refl _) hc
    exact ((Below.refl w.heap.size w).alloc (Nat.le_refl _) _).mono hB
  clear hc
  go_enter Try.func46, Try.ntmps46
  go_wp2
  go_loopg [0] l.length (fun k q wr => ∃ p' l', q = .pointer p' ∧ Chain (w.alloc (.cells #[.int .i64 0, .string ⟨#[]⟩] 119)) B p' l' ∧ k = l'.length ∧ firstD d (l'.map (·.2)) = firstD d (l.map (·.2)) ∧ wr = w.alloc (.cells #[.int .i64 0, .string ⟨#[]⟩] 119))
  case atStart => exact ⟨p, l, rfl, HC.out, rfl, rfl, rfl⟩
  case round =>
    clear HC
    obtain ⟨p', l', rfl, hc, hk, he, rfl⟩ := hrel
    have HK : Hid (gk = l'.length) := hk
    clear hk
    cases l' with
    | nil =>
      obtain rfl : p' = none := hc
      have HE : Hid (d = firstD d (l.map (·.2))) := he
      clear he
      go_wp2
      refine bodyPost_ret (v := .agg #[.int .i64 d, .string ⟨#[]⟩]) (by simp [results, Try.results46, go_sem]) rfl ⟨⟨⟨#[]⟩, by rw [← HE.out]⟩, (Below.refl _ _).alloc (Nat.le_refl _) _⟩
    | cons x r =>
      obtain ⟨b, bq, pp, rp, nm, par, rfl, h2, h3, h4, h5, h6, h7, h8, h9, h10, h11⟩ := hc
      have H11 : Hid (Chain (w.alloc (.cells #[.int .i64 0, .string ⟨#[]⟩] 119)) B par r) := h11
      have HE : Hid (firstD d ((x :: r).map (·.2)) = firstD d (l.map (·.2))) := he
      clear he h11 h9 h7
      obtain ⟨x1, x2⟩ := x
      cases x2 with
      | none =>
        obtain rfl : rp = none := h10
        go_wp2
        go_roundg r.length
        case measure => rw [HK.out]; simp
        case rel => exact ⟨par, r, rfl, H11.out, rfl, HE.out, rfl⟩
      | some v =>
        obtain ⟨bd, g1, rfl, g3⟩ := h10
        go_wp2
        go_region
        all_goals
          go_wp2
          refine bodyPost_ret (v := .agg #[.int .i64 v, .string nm]) (by simp [results, Try.results46, go_sem]) rfl ⟨⟨nm, ?_⟩, ((Below.refl _ _).alloc (Nat.le_refl _) _).drew⟩
          rw [← HE.out]
          rfl

set_option maxHeartbeats 1000000 in
/-- firstSet at preemptSetting: the setting nearest on the way up. -/
theorem firstSet_pre (w : World) (B : Nat) (p : Option Addr) (l : List (Option Int × Option Int)) (d : Int) (hB : B ≤ w.heap.size) (hc : Chain w B p l) :
    Calls Try.prog 46 #[.pointer p, .func (.func 54) #[] #[], .int .i64 d] w fun e w' => (∃ nm, e = .returned (.agg #[.int .i64 (firstD d (l.map (·.1))), .string nm])) ∧ Below w.heap.size w w' := by
  have HC : Hid (Chain (w.alloc (.cells #[.int .i64 0, .string ⟨#[]⟩] 119)) B p l) := by
    refine Chain.below ?_ (Nat.le_refl _) hc
    exact ((Below.refl w.heap.size w).alloc (Nat.le_refl _) _).mono hB
  clear hc
  go_enter Try.func46, Try.ntmps46
  go_wp2
  go_loopg [0] l.length (fun k q wr => ∃ p' l', q = .pointer p' ∧ Chain (w.alloc (.cells #[.int .i64 0, .string ⟨#[]⟩] 119)) B p' l' ∧ k = l'.length ∧ firstD d (l'.map (·.1)) = firstD d (l.map (·.1)) ∧ wr = w.alloc (.cells #[.int .i64 0, .string ⟨#[]⟩] 119))
  case atStart => exact ⟨p, l, rfl, HC.out, rfl, rfl, rfl⟩
  case round =>
    clear HC
    obtain ⟨p', l', rfl, hc, hk, he, rfl⟩ := hrel
    have HK : Hid (gk = l'.length) := hk
    clear hk
    cases l' with
    | nil =>
      obtain rfl : p' = none := hc
      have HE : Hid (d = firstD d (l.map (·.1))) := he
      clear he
      go_wp2
      refine bodyPost_ret (v := .agg #[.int .i64 d, .string ⟨#[]⟩]) (by simp [results, Try.results46, go_sem]) rfl ⟨⟨⟨#[]⟩, by rw [← HE.out]⟩, (Below.refl _ _).alloc (Nat.le_refl _) _⟩
    | cons x r =>
      obtain ⟨b, bq, pp, rp, nm, par, rfl, h2, h3, h4, h5, h6, h7, h8, h9, h10, h11⟩ := hc
      have H11 : Hid (Chain (w.alloc (.cells #[.int .i64 0, .string ⟨#[]⟩] 119)) B par r) := h11
      have HE : Hid (firstD d ((x :: r).map (·.1)) = firstD d (l.map (·.1))) := he
      clear he h11 h10 h8
      obtain ⟨x1, x2⟩ := x
      cases x1 with
      | none =>
        obtain rfl : pp = none := h9
        go_wp2
        go_roundg r.length
        case measure => rw [HK.out]; simp
        case rel => exact ⟨par, r, rfl, H11.out, rfl, HE.out, rfl⟩
      | some v =>
        obtain ⟨bd, g1, rfl, g3⟩ := h9
        go_wp2
        go_region
        all_goals
          go_wp2
          refine bodyPost_ret (v := .agg #[.int .i64 v, .string nm]) (by simp [results, Try.results46, go_sem]) rfl ⟨⟨nm, ?_⟩, ((Below.refl _ _).alloc (Nat.le_refl _) _).drew⟩
          rw [← HE.out]
          rfl

/-- the state's config, below block B -/
structure StAt (w : World) (b : Nat) (dp dr : Int) (m : ByteArray) : Prop where
  c3 : w.cell? ⟨b, 3, none⟩ = some (.int .i64 dp)
  c4 : w.cell? ⟨b, 4, none⟩ = some (.int .i64 dr)
  c5 : w.cell? ⟨b, 5, none⟩ = some (.string m)
  c6 : w.cell? ⟨b, 6, none⟩ = some (.int .i64 0)
theorem StAt.below {w w' : World} {b B : Nat} {dp dr : Int} {m : ByteArray} (h : StAt w b dp dr m) (hb : Below B w w') (hB : b < B) : StAt w' b dp dr m :=
  ⟨(hb.cell (p := ⟨b, 3, none⟩) hB).trans h.c3, (hb.cell (p := ⟨b, 4, none⟩) hB).trans h.c4, (hb.cell (p := ⟨b, 5, none⟩) hB).trans h.c5, (hb.cell (p := ⟨b, 6, none⟩) hB).trans h.c6⟩

theorem state_new (w : World) (a b : Int) (s : ByteArray) : Calls Try.prog 24 #[.int .i64 a, .int .i64 b, .string s] w fun e w' => e = .returned (.pointer (some ⟨w.heap.size, 0, none⟩)) ∧ StAt w' w.heap.size a b s ∧ w'.heap.size = w.heap.size + 1 ∧ Below w.heap.size w w' := by
  go_enter Try.func24, Try.ntmps24
  go_wp2
  go_ret
  refine ⟨rfl, ⟨?_, ?_, ?_, ?_⟩, by simp, (Below.refl _ _).alloc (Nat.le_refl _) _⟩
  all_goals exact cell_of (heap_alloc_new w _) rfl
def queueObj (q p : Option Addr) : Obj := .cells #[.pointer q, .pointer p, .int .i64 0, .int .u64 0, .pointer none, .int .i64 0, .int .u64 0, .int .i64 0, .int .u64 0, .int .i64 0, .int .u64 0, .slice none 0 0, .bool false, .slice none 0 0, .slice none 0 0] 111
theorem queue_new (w : World) (q p : Option Addr) : Calls Try.prog 34 #[.pointer q, .pointer p] w fun e w' => e = .returned (.pointer (some ⟨w.heap.size, 0, none⟩)) ∧ w' = w.alloc (queueObj q p) := by
  go_enter Try.func34, Try.ntmps34
  go_wp2
  go_ret
  exact ⟨rfl, rfl⟩
end Go.Proofs.Qxb6604485a
