import Derived.Test.Qxb6604485aChain
namespace Go.Proofs.Qxb6604485a
open Go.RowKit
set_option linter.unusedVariables false

/-- what is known of the slice of strings: where it has an element, its cells hold the strings -/
def Strs (w : World) (a : Option Addr) (ss : List ByteArray) : Prop :=
  0 < ss.length → ∃ b off, a = some ⟨b, off, none⟩ ∧ ArgS w b off ss
/-- some bool is handed back, and where it is true p holds -/
def Answers (e : Ending) (p : Prop) : Prop := ∃ r : Bool, e = .returned (.bool r) ∧ (r = true → p)
theorem Answers.no (p : Prop) : Answers (.returned (.bool false)) p := ⟨false, rfl, fun h => by cases h⟩
theorem Answers.yes {p : Prop} (h : p) : Answers (.returned (.bool true)) p := ⟨true, rfl, fun _ => h⟩

set_option maxHeartbeats 2000000 in
theorem bytes29 (w : World) (dp dr : Int) (m : ByteArray) (a3 a4 a5 a6 a7 : Option Addr) (n4 n5 n6 n7 c3 c4 c5 c6 c7 : Nat) (ss : List ByteArray) (hs : Strs w a3 ss) :
    Calls Try.prog 29 #[.int .i64 dp, .int .i64 dr, .string m, .slice a3 ss.length c3, .slice a4 n4 c4, .slice a5 n5 c5, .slice a6 n6 c6, .slice a7 n7 c7] w fun e w' => Answers e True ∧ w = w' := by
  obtain ⟨n, en⟩ : ∃ n, Hid (n = ss.length) := ⟨_, rfl⟩
  have HS : Hid (Strs w a3 ss) := hs
  clear hs
  rw [← en.out]
  by_cases h1 : 1048576 < m.size
  · go_enter Try.func29, Try.ntmps29
    go_wp2
    go_ret
    exact ⟨Answers.no _, rfl⟩
  by_cases h2 : 1048576 < n
  · go_enter Try.func29, Try.ntmps29
    go_wp2
    go_ret
    exact ⟨Answers.no _, rfl⟩
  by_cases h3 : 1048576 < m.size + n
  · go_enter Try.func29, Try.ntmps29
    go_wp2
    go_ret
    exact ⟨Answers.no _, rfl⟩
  go_enter Try.func29, Try.ntmps29
  go_wp2
  go_loop [17, 18] (fun z i => ∃ (k : Nat) (t : Int), k ≤ n ∧ i = .int .i64 k ∧ z = .int .i64 t) (fun _ i => n - (intOf i).toNat)
  case atStart => exact ⟨0, _, Nat.zero_le _, rfl, rfl⟩
  case round =>
    obtain ⟨k, t, hk, rfl, rfl⟩ := hrel
    by_cases hlt : k < n
    · obtain ⟨b, off, ea, hc⟩ := HS.out (by rw [← en.out]; omega)
      have hck := hc k (by rw [← en.out]; exact hlt)
      obtain ⟨s, hs⟩ : ∃ s, s = ss.getD k ByteArray.empty := ⟨_, rfl⟩
      rw [← hs] at hck
      clear hs hc
      subst ea
      go_wp2
      · go_ret
        exact ⟨Answers.no _, rfl⟩
      · go_ret
        exact ⟨Answers.no _, rfl⟩
      · go_round
        case rel => exact ⟨k + 1, _, by omega, by go_num, rfl⟩
        case measure => simp [intOf]; omega
    · go_wp2
      all_goals
        go_ret
        first | exact ⟨Answers.no _, rfl⟩ | exact ⟨Answers.yes trivial, rfl⟩

set_option maxHeartbeats 2000000 in
theorem bytes21 (w : World) (dp dr : Int) (m : ByteArray) (a3 a4 a5 a6 a7 : Option Addr) (n4 n5 n6 n7 c3 c4 c5 c6 c7 : Nat) (ss : List ByteArray) (hs : Strs w a3 ss) :
    Calls Try.prog 21 #[.int .i64 dp, .int .i64 dr, .string m, .slice a3 ss.length c3, .slice a4 n4 c4, .slice a5 n5 c5, .slice a6 n6 c6, .slice a7 n7 c7] w fun e w' => Answers e True ∧ w = w' := by
  obtain ⟨n, en⟩ : ∃ n, Hid (n = ss.length) := ⟨_, rfl⟩
  have HS : Hid (Strs w a3 ss) := hs
  clear hs
  rw [← en.out]
  by_cases h1 : 1048576 < m.size
  · go_enter Try.func21, Try.ntmps21
    go_wp2
    go_ret
    exact ⟨Answers.no _, rfl⟩
  by_cases h2 : 1048576 < n
  · go_enter Try.func21, Try.ntmps21
    go_wp2
    go_ret
    exact ⟨Answers.no _, rfl⟩
  by_cases h3 : 1048576 < m.size + n
  · go_enter Try.func21, Try.ntmps21
    go_wp2
    go_ret
    exact ⟨Answers.no _, rfl⟩
  go_enter Try.func21, Try.ntmps21
  go_wp2
  go_loop [17, 18] (fun z i => ∃ (k : Nat) (t : Int), k ≤ n ∧ i = .int .i64 k ∧ z = .int .i64 t) (fun _ i => n - (intOf i).toNat)
  case atStart => exact ⟨0, _, Nat.zero_le _, rfl, rfl⟩
  case round =>
    obtain ⟨k, t, hk, rfl, rfl⟩ := hrel
    by_cases hlt : k < n
    · obtain ⟨b, off, ea, hc⟩ := HS.out (by rw [← en.out]; omega)
      have hck := hc k (by rw [← en.out]; exact hlt)
      obtain ⟨s, hs⟩ : ∃ s, s = ss.getD k ByteArray.empty := ⟨_, rfl⟩
      rw [← hs] at hck
      clear hs hc
      subst ea
      go_wp2
      · go_ret
        exact ⟨Answers.no _, rfl⟩
      · go_ret
        exact ⟨Answers.no _, rfl⟩
      · go_round
        case rel => exact ⟨k + 1, _, by omega, by go_num, rfl⟩
        case measure => simp [intOf]; omega
    · go_wp2
      all_goals
        go_ret
        first | exact ⟨Answers.no _, rfl⟩ | exact ⟨Answers.yes trivial, rfl⟩

/-- what the guards let by -/
structure Fit (n n2 n3 n4 n5 : Nat) : Prop where
  pos : 0 < n
  le : n ≤ 1024
  e2 : n2 = n
  e3 : n3 = n
  e4 : n4 = n
  e5 : n5 = n
set_option maxHeartbeats 4000000 in
set_option maxRecDepth 100000 in
/-- zzRequeueFits -/
theorem fits_any (w : World) (m : ByteArray) (a1 a2 a3 a4 a5 : Option Addr) (n2 n3 n4 n5 c1 c2 c3 c4 c5 : Nat) (ss : List ByteArray) (hs : Strs w a1 ss) :
    Calls Try.prog 22 #[.string m, .slice a1 ss.length c1, .slice a2 n2 c2, .slice a3 n3 c3, .slice a4 n4 c4, .slice a5 n5 c5] w fun e w' => Answers e (Fit ss.length n2 n3 n4 n5) ∧ w = w' := by
  obtain ⟨n, en⟩ : ∃ n, Hid (n = ss.length) := ⟨_, rfl⟩
  have HS : Hid (Strs w a1 ss) := hs
  clear hs
  rw [← en.out]
  by_cases h0 : 65536 < m.size
  · go_enter Try.func22, Try.ntmps22
    go_wp2
    go_ret
    exact ⟨Answers.no _, rfl⟩
  by_cases h1 : 1024 < n
  · go_enter Try.func22, Try.ntmps22
    go_wp2
    go_ret
    exact ⟨Answers.no _, rfl⟩
  by_cases h2 : 1024 < n2
  · go_enter Try.func22, Try.ntmps22
    go_wp2
    go_ret
    exact ⟨Answers.no _, rfl⟩
  by_cases h3 : 1024 < n3
  · go_enter Try.func22, Try.ntmps22
    go_wp2
    go_ret
    exact ⟨Answers.no _, rfl⟩
  by_cases h4 : 1024 < n4
  · go_enter Try.func22, Try.ntmps22
    go_wp2
    go_ret
    exact ⟨Answers.no _, rfl⟩
  by_cases h5 : 1024 < n5
  · go_enter Try.func22, Try.ntmps22
    go_wp2
    go_ret
    exact ⟨Answers.no _, rfl⟩
  go_enter Try.func22, Try.ntmps22
  go_wp2
  go_loop [13, 14] (fun z i => ∃ (k : Nat) (t : Int), k ≤ n ∧ i = .int .i64 k ∧ z = .int .i64 t) (fun _ i => n - (intOf i).toNat)
  case atStart => exact ⟨0, _, Nat.zero_le _, rfl, rfl⟩
  case round =>
    obtain ⟨k, t, hk, rfl, rfl⟩ := hrel
    by_cases hlt : k < n
    · obtain ⟨b, off, ea, hc⟩ := HS.out (by rw [← en.out]; omega)
      have hck := hc k (by rw [← en.out]; exact hlt)
      obtain ⟨s, hs⟩ : ∃ s, s = ss.getD k ByteArray.empty := ⟨_, rfl⟩
      rw [← hs] at hck
      clear hs hc
      subst ea
      go_wp2
      · go_ret
        exact ⟨Answers.no _, rfl⟩
      · go_ret
        exact ⟨Answers.no _, rfl⟩
      · go_round
        case rel => exact ⟨k + 1, _, by omega, by go_num, rfl⟩
        case measure => simp [intOf]; omega
    · by_cases ht : 1048576 < t
      · go_wp2
        go_ret
        exact ⟨Answers.no _, rfl⟩
      by_cases hn : n = 0
      · have hn' : ((n : Int) == 0) = true := by simp [hn]
        clear hn
        go_wp2
        go_ret
        exact ⟨Answers.no _, rfl⟩
      have hn' : ((n : Int) == 0) = false := by simp [hn]
      by_cases k2 : n2 = n
      case neg =>
        have q2 : ((n2 : Int) != (n : Int)) = true := by simp; omega
        go_wp2
        go_ret
        exact ⟨Answers.no _, rfl⟩
      by_cases k3 : n3 = n
      case neg =>
        have q2 : ((n2 : Int) != (n : Int)) = false := by simp; omega
        have q3 : ((n3 : Int) != (n : Int)) = true := by simp; omega
        have K2 : Hid (n2 = n) := k2
        clear k2
        go_wp2
        go_ret
        exact ⟨Answers.no _, rfl⟩
      by_cases k4 : n4 = n
      case neg =>
        have q2 : ((n2 : Int) != (n : Int)) = false := by simp; omega
        have q3 : ((n3 : Int) != (n : Int)) = false := by simp; omega
        have q4 : ((n4 : Int) != (n : Int)) = true := by simp; omega
        clear k2 k3
        go_wp2
        go_ret
        exact ⟨Answers.no _, rfl⟩
      by_cases k5 : n5 = n
      case neg =>
        have q2 : ((n2 : Int) != (n : Int)) = false := by simp; omega
        have q3 : ((n3 : Int) != (n : Int)) = false := by simp; omega
        have q4 : ((n4 : Int) != (n : Int)) = false := by simp; omega
        have q5 : ((n5 : Int) != (n : Int)) = true := by simp; omega
        clear k2 k3 k4
        go_wp2
        go_ret
        exact ⟨Answers.no _, rfl⟩
      have q2 : ((n2 : Int) != (n : Int)) = false := by simp; omega
      have q3 : ((n3 : Int) != (n : Int)) = false := by simp; omega
      have q4 : ((n4 : Int) != (n : Int)) = false := by simp; omega
      have q5 : ((n5 : Int) != (n : Int)) = false := by simp; omega
      have HFit : Hid (Fit n n2 n3 n4 n5) := ⟨by omega, by omega, k2, k3, k4, k5⟩
      clear k2 k3 k4 k5
      go_wp2
      go_ret
      exact ⟨Answers.yes HFit.out, rfl⟩
end Go.Proofs.Qxb6604485a
