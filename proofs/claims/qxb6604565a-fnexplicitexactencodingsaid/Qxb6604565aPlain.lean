import Derived.Test.Qxb6604565aCat
namespace Go.Proofs.Qxb6604565a
open Go.RowKit
set_option linter.unusedVariables false

/-! ### the plain part: the digits of a number -/
def dig (B n i : Nat) : Nat := n / B ^ i % B
/-- n has k digits (at least one) -/
structure IsCnt (B n k : Nat) : Prop where
  pos : 1 ≤ k
  top : n / B ^ k = 0
  more : ∀ j, 1 ≤ j → j < k → n / B ^ j ≠ 0
theorem IsCnt.one {B n k k' : Nat} (h : IsCnt B n k) (h' : IsCnt B n k') : k = k' := by
  have h1 : ¬ k < k' := fun hlt => h'.more k h.pos hlt h.top
  have h2 : ¬ k' < k := fun hlt => h.more k' h'.pos hlt h'.top
  omega
/-- the digits from the (k-1)th down to the 0th, the top bit on all but the last -/
def tl128 (n : Nat) : Nat → List Int
  | 0 => []
  | i + 1 => ((dig 128 n i : Nat) + (if i = 0 then 0 else 128) : Int) :: tl128 n i
def tl256 (n : Nat) : Nat → List Int
  | 0 => []
  | i + 1 => (dig 256 n i : Nat) :: tl256 n i
theorem tl128_length (n k : Nat) : (tl128 n k).length = k := by
  induction k with
  | zero => rfl
  | succ k ih => simp [tl128, ih]
theorem tl256_length (n k : Nat) : (tl256 n k).length = k := by
  induction k with
  | zero => rfl
  | succ k ih => simp [tl256, ih]
/-- the lowest k digits, the lowest first -/
def digs (B n k : Nat) : List Int := (List.range k).map fun i => ((dig B n i : Nat) : Int)
theorem digs_length (B n k : Nat) : (digs B n k).length = k := by simp [digs]
theorem digs_succ (B n k : Nat) : digs B n (k + 1) = digs B n k ++ [((dig B n k : Nat) : Int)] := by simp [digs, List.range_succ]
theorem digs_get (B n k i : Nat) (h : i < k) : (digs B n k).getD i 0 = ((dig B n i : Nat) : Int) := by simp [digs, h]
theorem div_step (B n i : Nat) : n / B ^ (i + 1) = n / B ^ i / B := by rw [Nat.pow_succ, Nat.div_div_eq_div_mul]
theorem pow_le4 (B i : Nat) (hB : 0 < B) (hi : 4 ≤ i) : B ^ 4 ≤ B ^ i := Nat.pow_le_pow_right hB hi
theorem div_le_of (B n i : Nat) (hB : 0 < B) (hi : 4 ≤ i) : n / B ^ i ≤ n / B ^ 4 := Nat.div_le_div_left (pow_le4 B i hB hi) (Nat.pow_pos hB)
theorem cnt128_lt (n i : Nat) (hn : n < 4294967296) (h : 128 ≤ n / 128 ^ i) : i < 4 := by
  by_cases hi : i < 4
  · exact hi
  · have := div_le_of 128 n i (by omega) (by omega)
    have e : (128 : Nat) ^ 4 = 268435456 := by decide
    rw [e] at this
    omega
theorem cnt256_lt (n i : Nat) (hn : n ≤ 2097152) (h : n / 256 ^ i ≠ 0) : i < 3 := by
  by_cases hi : i < 3
  · exact hi
  · have h1 : (256 : Nat) ^ 3 ≤ 256 ^ i := Nat.pow_le_pow_right (by omega) (by omega)
    have h2 : n / 256 ^ i ≤ n / 256 ^ 3 := Nat.div_le_div_left h1 (by decide)
    have e : (256 : Nat) ^ 3 = 16777216 := by decide
    rw [e, show n / 16777216 = 0 by omega] at h2
    exact absurd (Nat.le_zero.1 h2) h
theorem cnt128_le (n k : Nat) (hn : n < 4294967296) (h : IsCnt 128 n k) : k ≤ 5 := by
  by_cases hk : k ≤ 5
  · exact hk
  · have h1 := h.more 5 (by omega) (by omega)
    have e : (128 : Nat) ^ 5 = 34359738368 := by decide
    rw [e] at h1
    omega
theorem cnt256_le (n k : Nat) (hn : n ≤ 2097152) (h : IsCnt 256 n k) : k ≤ 3 := by
  by_cases hk : k ≤ 3
  · exact hk
  · have h1 := h.more 3 (by omega) (by omega)
    have e : (256 : Nat) ^ 3 = 16777216 := by decide
    rw [e] at h1
    omega
theorem dig_lt (B n i : Nat) (h : 0 < B) : dig B n i < B := Nat.mod_lt _ h
/-- the identifier octets of a constructed context-specific tag whose number, in base 128, has k digits -/
def identL (n k : Nat) : List Int := if n < 31 then [160 + (n : Int)] else 191 :: tl128 n k
/-- the length octets of n, whose base-256 form has k digits -/
def lenL (n k : Nat) : List Int := if n < 128 then [(n : Int)] else (128 + (k : Int)) :: tl256 n k
theorem identL_length (n k : Nat) (hk : 1 ≤ k) : (identL n k).length ≤ k + 1 := by
  unfold identL
  split
  · simp
  · simp [tl128_length]
theorem lenL_length (n k : Nat) (hk : 1 ≤ k) : (lenL n k).length ≤ k + 1 := by
  unfold lenL
  split
  · simp
  · simp [tl256_length]
theorem Row.keep {t : TypeId} {w : World} {G c : Nat} {zs : List Int} (h : Row t w G c zs) (g j : Nat) (v : Value) (o : Obj) (hne : G ≠ g) : Row t ((w.setCell ⟨g, j, none⟩ v).alloc o) G c zs :=
  (h.same (Below.heap_setCell w ⟨g, j, none⟩ v G hne)).grown (grownBy_alloc' _ o none) (by simp)
end Go.Proofs.Qxb6604565a
