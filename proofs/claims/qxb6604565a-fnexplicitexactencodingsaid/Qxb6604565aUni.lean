import Derived.Test.Qxb6604565aAid
import Derived.Test.Qxb6604565aIdent
import Derived.Test.Qxb6604565aLen
import Derived.Laws.CopyOwn
namespace Go.Proofs.Qxb6604565a
open Go.RowKit
set_option linter.unusedVariables false

/-- L is the identifier of the constructed context-specific tag n -/
def IdentOf (n : Nat) (L : List Int) : Prop := ∃ k, L = identL n k ∧ (31 ≤ n → IsCnt 128 n k)
/-- L is the length octets of n -/
def LenOf (n : Nat) (L : List Int) : Prop := ∃ k, L = lenL n k ∧ (128 ≤ n → IsCnt 256 n k)
theorem IdentOf.one {n : Nat} {L L' : List Int} (h : IdentOf n L) (h' : IdentOf n L') : L = L' := by
  obtain ⟨k, rfl, hk⟩ := h
  obtain ⟨k', rfl, hk'⟩ := h'
  by_cases hn : n < 31
  · simp [identL, hn]
  · rw [(hk (by omega)).one (hk' (by omega))]
theorem LenOf.one {n : Nat} {L L' : List Int} (h : LenOf n L) (h' : LenOf n L') : L = L' := by
  obtain ⟨k, rfl, hk⟩ := h
  obtain ⟨k', rfl, hk'⟩ := h'
  by_cases hn : n < 128
  · simp [lenL, hn]
  · rw [(hk (by omega)).one (hk' (by omega))]
theorem IdentOf.len {n : Nat} {L : List Int} (hn2 : n < 4294967296) (h : IdentOf n L) : 1 ≤ L.length ∧ L.length ≤ 6 := by
  obtain ⟨k, rfl, hk⟩ := h
  by_cases hn : n < 31
  · simp [identL, hn]
  · have := cnt128_le n k hn2 (hk (by omega))
    simp only [identL, hn, if_false, List.length_cons, tl128_length]
    omega
theorem LenOf.len {n : Nat} {L : List Int} (hn2 : n ≤ 2097152) (h : LenOf n L) : 1 ≤ L.length ∧ L.length ≤ 4 := by
  obtain ⟨k, rfl, hk⟩ := h
  by_cases hn : n < 128
  · simp [lenL, hn]
  · have := cnt256_le n k hn2 (hk (by omega))
    simp only [lenL, hn, if_false, List.length_cons, tl256_length]
    omega
theorem aid_any (w : World) (t : TypeId) (g n : Nat) (hn2 : n < 4294967296) (hr : Row t w g 16 []) :
    Calls Try.prog 19 #[.slice (some ⟨g, 0, none⟩) 0 16, .agg #[.int .u8 2, .int .u32 n], .bool true] w fun e w' => ∃ L, IdentOf n L ∧ e = .returned (.slice (some ⟨g, 0, none⟩) L.length 16) ∧ Row t w' g 16 L ∧ w.grownBy w' (some g) := by
  by_cases hn : n < 31
  · refine (aid_short w t g n hn hr).mono ?_
    rintro e w' ⟨rfl, h1, h2⟩
    exact ⟨_, ⟨0, by simp [identL, hn], fun h => absurd h (by omega)⟩, rfl, h1, h2⟩
  · refine (aid_long w t g n (by omega) hn2 hr).mono ?_
    rintro e w' ⟨k, hk, rfl, h1, h2⟩
    exact ⟨_, ⟨k, by simp [identL, hn], fun _ => hk⟩, by simp [tl128_length], h1, h2⟩
theorem alen_any (w : World) (t : TypeId) (g n : Nat) (L0 : List Int) (hn2 : n ≤ 2097152) (hL0 : L0.length ≤ 10) (hr : Row t w g 16 L0) :
    Calls Try.prog 21 #[.slice (some ⟨g, 0, none⟩) L0.length 16, .int .i64 n] w fun e w' => ∃ L, LenOf n L ∧ e = .returned (.slice (some ⟨g, 0, none⟩) (L0 ++ L).length 16) ∧ Row t w' g 16 (L0 ++ L) ∧ w.grownBy w' (some g) := by
  by_cases hn : n < 128
  · refine (alen_short w t g n L0 hn hL0 hr).mono ?_
    rintro e w' ⟨rfl, h1, h2⟩
    exact ⟨_, ⟨0, by simp [lenL, hn], fun h => absurd h (by omega)⟩, by simp, h1, h2⟩
  · refine (alen_long w t g n L0 (by omega) hn2 hL0 hr).mono ?_
    rintro e w' ⟨k, hk, rfl, h1, h2⟩
    exact ⟨_, ⟨k, by simp [lenL, hn], fun _ => hk⟩, by simp [tl256_length], h1, h2⟩
theorem ident_any (w : World) (n : Nat) (hn2 : n < 4294967296) :
    Calls Try.prog 9 #[.int .u8 2, .bool true, .int .u32 n] w fun e w' => ∃ L g, IdentOf n L ∧ e = .returned (.slice (some ⟨g, 0, none⟩) L.length L.length) ∧ Row 5 w' g L.length L ∧ Below w.heap.size w w' := by
  by_cases hn : n < 31
  · refine (ident_short w n hn).mono ?_
    rintro e w' ⟨rfl, h1, h2⟩
    exact ⟨[160 + (n : Int)], _, ⟨0, by simp [identL, hn], fun h => absurd h (by omega)⟩, rfl, h1, h2⟩
  · refine (ident_long w n (by omega) hn2).mono ?_
    rintro e w' ⟨k, g, hk, rfl, _, h1, h2⟩
    have e : (191 :: tl128 n k).length = k + 1 := by simp [tl128_length]
    exact ⟨191 :: tl128 n k, g, ⟨k, by simp [identL, hn], fun _ => hk⟩, by rw [e], by rw [e]; exact h1, h2⟩
theorem len_any (w : World) (n : Nat) (hn2 : n ≤ 2097152) :
    Calls Try.prog 10 #[.int .i64 n] w fun e w' => ∃ L g, LenOf n L ∧ e = .returned (.slice (some ⟨g, 0, none⟩) L.length L.length) ∧ Row 5 w' g L.length L ∧ Below w.heap.size w w' := by
  by_cases hn : n < 128
  · refine (len_short w n hn).mono ?_
    rintro e w' ⟨rfl, h1, h2⟩
    exact ⟨[(n : Int)], _, ⟨0, by simp [lenL, hn], fun h => absurd h (by omega)⟩, rfl, h1, h2⟩
  · refine (len_long w n (by omega) hn2).mono ?_
    rintro e w' ⟨k, g, hk, rfl, _, h1, h2⟩
    have e : ((128 + (k : Int)) :: tl256 n k).length = k + 1 := by simp [tl256_length]
    exact ⟨(128 + (k : Int)) :: tl256 n k, g, ⟨k, by simp [lenL, hn], fun _ => hk⟩, by rw [e], by rw [e]; exact h1, h2⟩

/-! ### a row that is known whole -/
theorem Row.full {t : TypeId} {w : World} {g cap : Nat} {zs : List Int} (h : Row t w g cap zs) (hz : zs.length = cap) : w.heap[g]? = some (.cells (zs.map (Value.int .u8)).toArray t (0, 0)) := by
  obtain ⟨cur, h1, h2, h3, h4⟩ := h
  rw [h1]
  have e : cur = (zs.map (Value.int .u8)).toArray := by
    apply Array.ext'
    apply List.ext_getElem?
    intro j
    by_cases hj : j < zs.length
    · rw [Array.getElem?_toList, h4 j hj]
      simp [hj]
    · rw [List.getElem?_eq_none (by simp; omega), List.getElem?_eq_none (by simp; omega)]
  rw [e]
theorem Row.ofFull {t : TypeId} {w : World} {g : Nat} {zs : List Int} (h : w.heap[g]? = some (.cells (zs.map (Value.int .u8)).toArray t (0, 0))) : Row t w g zs.length zs :=
  ⟨_, h, by simp, Nat.le_refl _, fun j hj => by simp [hj]⟩
theorem splice_map {α β : Type} (f : α → β) (L cs : List α) (off : Nat) : splice (L.map f) off (cs.map f) = (splice L off cs).map f := by
  simp [splice, List.map_take, List.map_drop]
theorem Try.size5 : (Try.prog.info? 5).map (·.size) = some 1 := by kernel_rfl
theorem src_of {w : World} {sp : Option Addr} {cs : List Int} (h : Byt w sp cs) (h0 : 0 < cs.length) : ∃ ad, sp = some ad ∧ ∀ j v, (cs.map (Value.int .u8))[j]? = some v → w.cell? (ad.add j) = some v := by
  obtain ⟨b, off, rfl, _, hc⟩ := h h0
  refine ⟨_, rfl, fun j v hv => ?_⟩
  have hj : j < cs.length := by
    by_cases e : j < cs.length
    · exact e
    · rw [List.getElem?_eq_none (by simp; omega)] at hv; cases hv
  have := hc j hj
  simp [hj] at hv this
  subst hv
  have ea : (⟨b, off, none⟩ : Addr).add j = ⟨b, off + j, none⟩ := by
    by_cases hj0 : j = 0
    · subst hj0; simp [Addr.add]
    · simp [Addr.add, hj0]
  rw [ea]
  exact this
/-- 'copy' into a row known whole -/
theorem run_copy_full (w : World) (rt : TypeId) (dp sp : Option Addr) (dLen dCap sLen sCap g off cap : Nat) (zs cs : List Int) (hr : Row 5 w g cap zs) (hz : zs.length = cap) (hl : cs.length = sLen) (hle : sLen ≤ dLen) (hb : Byt w sp cs)
    (hdp : 0 < cs.length → dp = some ⟨g, off, none⟩) (hfit : off + cs.length ≤ cap) :
    ∃ w', (Builtin.copy_ #[23, 23] rt #[.slice dp dLen dCap, .slice sp sLen sCap]).run Try.prog w = .ok (.int .i64 sLen) w' ∧ Hid (Row 5 w' g cap (splice zs off cs)) ∧ (∀ B w0, Below B w0 w → B ≤ g → Below B w0 w') ∧ w.grownBy w' (some g) := by
  subst hl
  by_cases h0 : cs.length = 0
  · obtain rfl : cs = [] := List.eq_nil_of_length_eq_zero h0
    refine ⟨w, ?_, (show Row 5 w g cap _ by simpa [splice] using hr), fun B w0 h _ => h, World.grownBy.refl _ _⟩
    exact run_copy_none (P := Try.prog) w 23 23 rt 5 dp sp dLen dCap 0 sCap Try.underlying23 Try.size5 (Nat.zero_min _)
  · obtain ⟨ad, rfl, hsrc⟩ := src_of hb (by omega)
    obtain rfl := hdp (by omega)
    have hg := hr.full hz
    have hrun := run_copy_row (P := Try.prog) w 23 23 rt 5 g off dLen dCap ad cs.length sCap (zs.map (Value.int .u8)).toArray 5 (cs.map (Value.int .u8)) Try.underlying23 Try.size5 hg
      (by rw [List.length_map]; exact (Nat.min_eq_left hle).symm) hsrc (by simp; omega) (by simp [Value.oneCell'])
    refine ⟨_, by rw [hrun, List.length_map]; rfl, ?_, fun B w0 h hB => below_setRow h hB _, ⟨rfl, rfl, rfl, by simp [World.setRow], fun k _ hr => setRow_other w g k _ (fun e => hr (by rw [e]))⟩⟩
    show Row 5 _ g cap _
    have e := setRow_heap w g (zs.map (Value.int .u8)).toArray (splice (zs.map (Value.int .u8)) off (cs.map (Value.int .u8))).toArray 5 _ hg
    rw [splice_map] at e
    have r := Row.ofFull e
    rw [length_splice zs off cs (by omega), hz] at r
    simpa [splice, List.map_take, List.map_drop] using r
end Go.Proofs.Qxb6604565a
