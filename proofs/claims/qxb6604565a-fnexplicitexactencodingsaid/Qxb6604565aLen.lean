import Derived.Test.Qxb6604565aIdent
namespace Go.Proofs.Qxb6604565a
open Go.RowKit
set_option linter.unusedVariables false

set_option maxHeartbeats 2000000 in
set_option maxRecDepth 100000 in
/-- zzLen -/
theorem len_short (w : World) (n : Nat) (hn : n < 128) :
    Calls Try.prog 10 #[.int .i64 n] w fun e w' => e = .returned (.slice (some ⟨w.heap.size, 0, none⟩) 1 1) ∧ Row 5 w' w.heap.size 1 [(n : Int)] ∧ Below w.heap.size w w' := by
  go_enter Try.func10, Try.ntmps10
  go_wp2
  go_ret
  refine ⟨rfl, ⟨_, heap_alloc_new w _, rfl, by simp, fun j hj => ?_⟩, (Below.refl _ _).alloc (Nat.le_refl _) _⟩
  match j, hj with
  | 0, _ => simp

set_option maxHeartbeats 2000000 in
set_option maxRecDepth 100000 in
theorem len_long (w : World) (n : Nat) (hn : 128 ≤ n) (hn2 : n ≤ 2097152) :
    Calls Try.prog 10 #[.int .i64 n] w fun e w' => ∃ k g, IsCnt 256 n k ∧ e = .returned (.slice (some ⟨g, 0, none⟩) (k + 1) (k + 1)) ∧ w.heap.size ≤ g ∧ Row 5 w' g (k + 1) ((128 + (k : Int)) :: tl256 n k) ∧ Below w.heap.size w w' := by
  obtain ⟨i0, hi, hz0, hz1, hz2⟩ := info_parts Try.info5
  go_enter Try.func10, Try.ntmps10
  go_wp2
  go_loopw [4, 5] (fun c x wr => ∃ i v : Nat, i ≤ 3 ∧ v = n / 256 ^ i ∧ c = .int .i64 i ∧ x = .int .i64 v ∧ (∀ j, j < i → n / 256 ^ j ≠ 0) ∧ Row 43 wr w.heap.size 8 (digs 256 n i) ∧ Below w.heap.size w wr) (fun c _ _ => 4 - (intOf c).toNat)
  case atStart =>
    refine ⟨0, n, by omega, by simp, rfl, rfl, fun j h1 => by omega, ⟨_, heap_alloc_new w _, rfl, by simp [digs], fun j hj => by simp [digs] at hj⟩, (Below.refl _ _).alloc (Nat.le_refl _) _⟩
  case round =>
    obtain ⟨i, v, hi4, hv, rfl, rfl, hmore, hrow, hb⟩ := hrel
    have HV : Hid (v = n / 256 ^ i) := hv
    have HMore : Hid (∀ j, j < i → n / 256 ^ j ≠ 0) := hmore
    have hvn : v ≤ 2097152 := by rw [hv]; exact Nat.le_trans (Nat.div_le_self _ _) hn2
    by_cases hv0 : 0 < v
    · have HD : Hid (((dig 256 n i : Nat) : Int) = (v : Int) % 256) := by show _ = _; rw [dig, ← hv]; simp
      obtain ⟨v0, hcell⟩ := hrow.held i (by omega)
      have hfree := hrow.free i
      have HP : Hid (Row 43 (wr.setCell ⟨w.heap.size, i, none⟩ (.int .u8 ((v : Int) % 256))) w.heap.size 8 (digs 256 n (i + 1))) := by
        have e := hrow.push ((dig 256 n i : Nat) : Int) (by rw [digs_length]; omega)
        rw [digs_length, ← digs_succ, HD.out] at e
        exact e
      have HB : Hid (Below w.heap.size w (wr.setCell ⟨w.heap.size, i, none⟩ (.int .u8 ((v : Int) % 256)))) := hb.setCell (Nat.le_refl _) _
      clear hv hmore hrow hb
      have HN : Hid (n / 256 ^ (i + 1) = v / 256) := by show _ = _; rw [div_step, ← HV.out]
      have hi3 : i < 3 := cnt256_lt n i hn2 (by rw [← HV.out]; omega)
      go_wp2
      go_roundw
      case rel =>
        refine ⟨i + 1, v / 256, by omega, HN.out.symm, by go_num, by go_num, fun j h1 => ?_, HP.out, HB.out⟩
        by_cases hj : j < i
        · exact HMore.out j hj
        · rw [show j = i by omega, ← HV.out]; omega
      case measure => simp [intOf]; omega
    · have hv0' : v = 0 := by omega
      subst hv0'
      have HC : Hid (IsCnt 256 n i) := ⟨by
          by_cases h : i = 0
          · subst h; have := HV.out; simp at this; omega
          · omega, HV.out.symm, fun j h1 h2 => HMore.out j h2⟩
      have HP : Hid (Row 43 wr w.heap.size 8 (digs 256 n i)) := hrow
      have HB : Hid (Below w.heap.size w wr) := hb
      have hwr : w.heap.size < wr.heap.size := hrow.lt
      clear hv hmore hrow hb
      go_wp2_with (at_make; refine wpList_make_own _ rfl _ _ 23 rfl w.heap.size 5 i0 (.int .u8 0) 1 Try.underlying23 hi hz0 hz1 _ _ _ (i + 1) rfl rfl (by omega) ?b2 ?b3 ?b4 ?_)
      case b2 => rw [hz2]; omega
      case b3 => unfold maxLen; omega
      case b4 => omega
      intro w2 hown hgr
      have HR5 : Hid (Row 5 w2 wr.heap.size (i + 1) []) := by
        have e : w2.ownsRow w.heap.size 5 1 (.slice (some ⟨wr.heap.size, 0, none⟩) ([] : List Int).length (i + 1)) ([] : List Int).length (([] : List Int).map (Value.int .u8)) := by simpa using hown
        exact Row.own e
      have HR43 : Hid (Row 43 w2 w.heap.size 8 (digs 256 n i)) := HP.out.grown hgr (by simp)
      have HB2 : Hid (Below w.heap.size w w2) := HB.out.grown hgr (by omega) (fun k hk => by cases hk)
      obtain ⟨g, eg⟩ : ∃ g, Hid (g = wr.heap.size) := ⟨_, rfl⟩
      have hgw : w.heap.size < g := by rw [eg.out]; exact hwr
      rw [← eg.out] at HR5 ⊢
      clear hown hgr HP HB hwr
      have hg2 : g < w2.heap.size := HR5.out.lt
      have HN1 : Hid (∀ o, Row 5 ((w2.setCell ⟨g, 0, none⟩ (.int .u8 (128 + (i : Int)))).alloc o) g (i + 1) [128 + (i : Int)] ∧ Below w.heap.size w ((w2.setCell ⟨g, 0, none⟩ (.int .u8 (128 + (i : Int)))).alloc o) ∧ Row 43 ((w2.setCell ⟨g, 0, none⟩ (.int .u8 (128 + (i : Int)))).alloc o) w.heap.size 8 (digs 256 n i)) := fun o =>
        ⟨(HR5.out.grew1 HB2.out (Nat.le_of_lt hgw) _ o (by simp)).1, (HR5.out.grew1 HB2.out (Nat.le_of_lt hgw) _ o (by simp)).2, HR43.out.keep g 0 _ o (by omega)⟩
      go_wp2_with (at_builtin; refine wpList_append_one _ rfl _ _ 23 rfl 5 i0 Try.underlying23 hi hz1 g (i + 1) [] 0 rfl rfl (HR5.out.grown (grownBy_alloc' _ _ none) (by simp)) w2.heap.size 1 (128 + (i : Int)) rfl (by simp) (by simp) ?_)
      clear HB2 HR5 HR43
      go_loopw [6, 7] (fun out c wr => ∃ (q : Nat) (L : List Int), q ≤ i ∧ c = .int .i64 ((q : Int) - 1) ∧ L.length + q = i + 1 ∧ out = .slice (some ⟨g, 0, none⟩) L.length (i + 1) ∧ L ++ tl256 n q = (128 + (i : Int)) :: tl256 n i ∧ Row 5 wr g (i + 1) L ∧ Below w.heap.size w wr ∧ Row 43 wr w.heap.size 8 (digs 256 n i)) (fun _ c _ => (intOf c + 1).toNat)
      case atStart =>
        obtain ⟨q1, q2, q3⟩ := HN1.out (.cells #[.int .u8 (128 + (i : Int))] 5)
        exact ⟨i, [128 + (i : Int)], Nat.le_refl _, by go_num, by simp; omega, rfl, rfl, q1, q2, q3⟩
      case round =>
        clear HN1
        obtain ⟨q, L, hq, rfl, hL, rfl, htl, r5, hb, r43⟩ := hrel
        have HTl : Hid (L ++ tl256 n q = (128 + (i : Int)) :: tl256 n i) := htl
        have HR5 : Hid (Row 5 wr g (i + 1) L) := r5
        have HB2 : Hid (Below w.heap.size w wr) := hb
        have HR43 : Hid (Row 43 wr w.heap.size 8 (digs 256 n i)) := r43
        have hg3 : g < wr.heap.size := r5.lt
        clear htl r5 hb r43
        cases q with
        | zero =>
          have e0 : ((0 : Nat) : Int) - 1 = -1 := by omega
          rw [e0]
          clear e0
          have hLe : L = (128 + (i : Int)) :: tl256 n i := by have := HTl.out; simpa [tl256] using this
          have HLe : Hid (L = (128 + (i : Int)) :: tl256 n i) := hLe
          have hLl : L.length = i + 1 := by omega
          rw [hLl]
          clear hLe hLl
          go_wp2
          go_ret
          exact ⟨i, g, HC.out, rfl, Nat.le_of_lt hgw, by rw [← HLe.out]; exact HR5.out, HB2.out⟩
        | succ q =>
          have e0 : ((q + 1 : Nat) : Int) - 1 = (q : Int) := by omega
          rw [e0]
          clear e0
          have d1 := HR43.out.cell q (by rw [digs_length]; omega)
          rw [digs_get 256 n i q (by omega)] at d1
          have dl := dig_lt 256 n q (by omega)
          have HN2 : Hid (∀ x o, Row 5 ((wr.setCell ⟨g, L.length, none⟩ (.int .u8 x)).alloc o) g (i + 1) (L ++ [x]) ∧ Below w.heap.size w ((wr.setCell ⟨g, L.length, none⟩ (.int .u8 x)).alloc o) ∧ Row 43 ((wr.setCell ⟨g, L.length, none⟩ (.int .u8 x)).alloc o) w.heap.size 8 (digs 256 n i)) := fun x o =>
            ⟨(HR5.out.grew1 HB2.out (Nat.le_of_lt hgw) x o (by omega)).1, (HR5.out.grew1 HB2.out (Nat.le_of_lt hgw) x o (by omega)).2, HR43.out.keep g L.length _ o (by omega)⟩
          obtain ⟨d, ed⟩ : ∃ d, Hid (d = dig 256 n q) := ⟨_, rfl⟩
          rw [← ed.out] at d1 dl
          go_wp2_with (at_builtin; refine wpList_append_one _ rfl _ _ 23 rfl 5 i0 Try.underlying23 hi hz1 g (i + 1) L L.length rfl rfl (HR5.out.grown (grownBy_alloc' _ _ none) (by simp)) wr.heap.size 1 (d : Int) rfl (by simp) (by omega) ?_)
          go_roundw
          case rel =>
            obtain ⟨q1, q2, q3⟩ := HN2.out (d : Int) (.cells #[.int .u8 (d : Int)] 5)
            refine ⟨q, L ++ [(d : Int)], by omega, by go_num, by simp; omega, by simp, ?_, q1, q2, q3⟩
            rw [← HTl.out, ed.out]; simp [tl256]
          case measure => simp [intOf]
end Go.Proofs.Qxb6604565a
