import Derived.Test.Qxb6604565aPlain
namespace Go.Proofs.Qxb6604565a
open Go.RowKit
set_option linter.unusedVariables false

set_option maxHeartbeats 2000000 in
set_option maxRecDepth 100000 in
/-- zzIdent at the constructed context-specific tag -/
theorem ident_short (w : World) (n : Nat) (hn : n < 31) :
    Calls Try.prog 9 #[.int .u8 2, .bool true, .int .u32 n] w fun e w' => e = .returned (.slice (some ⟨w.heap.size, 0, none⟩) 1 1) ∧ Row 5 w' w.heap.size 1 [160 + (n : Int)] ∧ Below w.heap.size w w' := by
  go_enter Try.func9, Try.ntmps9
  go_wp2
  go_ret
  refine ⟨rfl, ⟨_, heap_alloc_new w _, rfl, by simp, fun j hj => ?_⟩, (Below.refl _ _).alloc (Nat.le_refl _) _⟩
  match j, hj with
  | 0, _ => simp

set_option maxHeartbeats 2000000 in
set_option maxRecDepth 100000 in
theorem ident_long (w : World) (n : Nat) (hn : 31 ≤ n) (hn2 : n < 4294967296) :
    Calls Try.prog 9 #[.int .u8 2, .bool true, .int .u32 n] w fun e w' => ∃ k g, IsCnt 128 n k ∧ e = .returned (.slice (some ⟨g, 0, none⟩) (k + 1) (k + 1)) ∧ w.heap.size ≤ g ∧ Row 5 w' g (k + 1) (191 :: tl128 n k) ∧ Below w.heap.size w w' := by
  obtain ⟨i0, hi, hz0, hz1, hz2⟩ := info_parts Try.info5
  go_enter Try.func9, Try.ntmps9
  go_wp2
  go_loopw [9, 10] (fun c x wr => ∃ i v : Nat, i ≤ 4 ∧ v = n / 128 ^ i ∧ c = .int .i64 i ∧ x = .int .u32 v ∧ (∀ j, 1 ≤ j → j ≤ i → n / 128 ^ j ≠ 0) ∧ Row 42 wr w.heap.size 5 (digs 128 n i) ∧ Below w.heap.size w wr) (fun c _ _ => 5 - (intOf c).toNat)
  case atStart =>
    refine ⟨0, n, by omega, by simp, rfl, rfl, fun j h1 h2 => by omega, ⟨_, heap_alloc_new w _, rfl, by simp [digs], fun j hj => by simp [digs] at hj⟩, (Below.refl _ _).alloc (Nat.le_refl _) _⟩
  case round =>
    obtain ⟨i, v, hi4, hv, rfl, rfl, hmore, hrow, hb⟩ := hrel
    have HV : Hid (v = n / 128 ^ i) := hv
    have HMore : Hid (∀ j, 1 ≤ j → j ≤ i → n / 128 ^ j ≠ 0) := hmore
    have hvn : v < 4294967296 := by rw [hv]; exact Nat.lt_of_le_of_lt (Nat.div_le_self _ _) hn2
    have HD : Hid (((dig 128 n i : Nat) : Int) = (v : Int) % 128) := by show _ = _; rw [dig, ← hv]; simp
    obtain ⟨v0, hcell⟩ := hrow.held i (by omega)
    have hfree := hrow.free i
    have HP : Hid (Row 42 (wr.setCell ⟨w.heap.size, i, none⟩ (.int .u8 ((v : Int) % 128))) w.heap.size 5 (digs 128 n (i + 1))) := by
      have e := hrow.push ((dig 128 n i : Nat) : Int) (by rw [digs_length]; omega)
      rw [digs_length, ← digs_succ, HD.out] at e
      exact e
    have HB : Hid (Below w.heap.size w (wr.setCell ⟨w.heap.size, i, none⟩ (.int .u8 ((v : Int) % 128)))) := hb.setCell (Nat.le_refl _) _
    clear hv hmore hrow hb
    by_cases hv128 : v < 128
    · have HC : Hid (IsCnt 128 n (i + 1)) := ⟨by omega, by rw [div_step, ← HV.out]; omega, fun j h1 h2 => HMore.out j h1 (by omega)⟩
      have hwr : w.heap.size < wr.heap.size := by have := HP.out.lt; simpa using this
      go_wp2_with (at_make; refine wpList_make_own _ rfl _ _ 23 rfl w.heap.size 5 i0 (.int .u8 0) 1 Try.underlying23 hi hz0 hz1 _ _ _ (i + 1 + 1) rfl rfl (by omega) ?b2 ?b3 ?b4 ?_)
      case b2 => rw [hz2]; omega
      case b3 => unfold maxLen; omega
      case b4 => simp; omega
      intro w2 hown hgr
      have HR5 : Hid (Row 5 w2 wr.heap.size (i + 1 + 1) []) := by
        have e : w2.ownsRow w.heap.size 5 1 (.slice (some ⟨wr.heap.size, 0, none⟩) ([] : List Int).length (i + 1 + 1)) ([] : List Int).length (([] : List Int).map (Value.int .u8)) := by simpa using hown
        exact Row.own e
      have HR42 : Hid (Row 42 w2 w.heap.size 5 (digs 128 n (i + 1))) := HP.out.grown hgr (by simp)
      have HB2 : Hid (Below w.heap.size w w2) := HB.out.grown hgr (by simp; omega) (fun k hk => by cases hk)
      obtain ⟨g, eg⟩ : ∃ g, Hid (g = wr.heap.size) := ⟨_, rfl⟩
      have hgw : w.heap.size < g := by rw [eg.out]; exact hwr
      rw [← eg.out] at HR5 ⊢
      clear hown hgr HP HB hcell hfree hwr
      have hg2 : g < w2.heap.size := HR5.out.lt
      have HN1 : Hid (∀ o, Row 5 ((w2.setCell ⟨g, 0, none⟩ (.int .u8 191)).alloc o) g (i + 1 + 1) [191] ∧ Below w.heap.size w ((w2.setCell ⟨g, 0, none⟩ (.int .u8 191)).alloc o) ∧ Row 42 ((w2.setCell ⟨g, 0, none⟩ (.int .u8 191)).alloc o) w.heap.size 5 (digs 128 n (i + 1))) := fun o =>
        ⟨(HR5.out.grew1 HB2.out (Nat.le_of_lt hgw) 191 o (by simp)).1, (HR5.out.grew1 HB2.out (Nat.le_of_lt hgw) 191 o (by simp)).2, HR42.out.keep g 0 _ o (by omega)⟩
      go_wp2_with (at_builtin; refine wpList_append_one _ rfl _ _ 23 rfl 5 i0 Try.underlying23 hi hz1 g (i + 1 + 1) [] 0 rfl rfl (HR5.out.grown (grownBy_alloc' _ _ none) (by simp)) w2.heap.size 1 191 rfl (by simp) (by simp) ?_)
      clear HB2 HR5 HR42
      go_loopw [11, 12] (fun out c wr => ∃ (q : Nat) (L : List Int), q ≤ i + 1 ∧ c = .int .i64 ((q : Int) - 1) ∧ L.length + q = i + 2 ∧ out = .slice (some ⟨g, 0, none⟩) L.length (i + 1 + 1) ∧ L ++ tl128 n q = 191 :: tl128 n (i + 1) ∧ Row 5 wr g (i + 1 + 1) L ∧ Below w.heap.size w wr ∧ Row 42 wr w.heap.size 5 (digs 128 n (i + 1))) (fun _ c _ => (intOf c + 1).toNat)
      case atStart =>
        obtain ⟨q1, q2, q3⟩ := HN1.out (.cells #[.int .u8 191] 5)
        exact ⟨i + 1, [191], Nat.le_refl _, by go_num, by simp; omega, rfl, rfl, q1, q2, q3⟩
      case round =>
        clear HN1
        obtain ⟨q, L, hq, rfl, hL, rfl, htl, r5, hb, r42⟩ := hrel
        have HTl : Hid (L ++ tl128 n q = 191 :: tl128 n (i + 1)) := htl
        have HR5 : Hid (Row 5 wr g (i + 1 + 1) L) := r5
        have HB2 : Hid (Below w.heap.size w wr) := hb
        have HR42 : Hid (Row 42 wr w.heap.size 5 (digs 128 n (i + 1))) := r42
        have hg3 : g < wr.heap.size := r5.lt
        clear htl r5 hb r42
        cases q with
        | zero =>
          have e0 : ((0 : Nat) : Int) - 1 = -1 := by omega
          rw [e0]
          clear e0
          have hLe : L = 191 :: tl128 n (i + 1) := by have := HTl.out; simpa [tl128] using this
          have HLe : Hid (L = 191 :: tl128 n (i + 1)) := hLe
          have hLl : L.length = i + 1 + 1 := by omega
          rw [hLl]
          clear hLe hLl
          go_wp2
          go_ret
          exact ⟨i + 1, g, HC.out, rfl, Nat.le_of_lt hgw, by rw [← HLe.out]; exact HR5.out, HB2.out⟩
        | succ q =>
          have e0 : ((q + 1 : Nat) : Int) - 1 = (q : Int) := by omega
          rw [e0]
          clear e0
          have d1 := HR42.out.cell q (by rw [digs_length]; omega)
          rw [digs_get 128 n (i + 1) q (by omega)] at d1
          have dl := dig_lt 128 n q (by omega)
          have HN2 : Hid (∀ x o, Row 5 ((wr.setCell ⟨g, L.length, none⟩ (.int .u8 x)).alloc o) g (i + 1 + 1) (L ++ [x]) ∧ Below w.heap.size w ((wr.setCell ⟨g, L.length, none⟩ (.int .u8 x)).alloc o) ∧ Row 42 ((wr.setCell ⟨g, L.length, none⟩ (.int .u8 x)).alloc o) w.heap.size 5 (digs 128 n (i + 1))) := fun x o =>
            ⟨(HR5.out.grew1 HB2.out (Nat.le_of_lt hgw) x o (by omega)).1, (HR5.out.grew1 HB2.out (Nat.le_of_lt hgw) x o (by omega)).2, HR42.out.keep g L.length _ o (by omega)⟩
          obtain ⟨d, ed⟩ : ∃ d, Hid (d = dig 128 n q) := ⟨_, rfl⟩
          rw [← ed.out] at d1 dl
          by_cases hq0 : q = 0
          · subst hq0
            go_wp2_with (at_builtin; refine wpList_append_one _ rfl _ _ 23 rfl 5 i0 Try.underlying23 hi hz1 g (i + 1 + 1) L L.length rfl rfl (HR5.out.grown (grownBy_alloc' _ _ none) (by simp)) wr.heap.size 1 (d : Int) rfl (by simp) (by omega) ?_)
            go_roundw
            case rel =>
              obtain ⟨q1, q2, q3⟩ := HN2.out (d : Int) (.cells #[.int .u8 (d : Int)] 5)
              refine ⟨0, L ++ [(d : Int)], by omega, by go_num, by simp; omega, by simp; omega, ?_, q1, q2, q3⟩
              rw [← HTl.out, ed.out]; simp [tl128]
            case measure => simp [intOf]
          · have hq1 : 0 < q := by omega
            clear hq0
            go_wp2_with (at_builtin; refine wpList_append_one _ rfl _ _ 23 rfl 5 i0 Try.underlying23 hi hz1 g (i + 1 + 1) L L.length rfl rfl (HR5.out.grown (grownBy_alloc' _ _ none) (by simp)) wr.heap.size 1 ((d : Int) + 128) rfl (by simp) (by omega) ?_)
            go_roundw
            case rel =>
              obtain ⟨q1, q2, q3⟩ := HN2.out ((d : Int) + 128) (.cells #[.int .u8 ((d : Int) + 128)] 5)
              refine ⟨q, L ++ [(d : Int) + 128], by omega, by go_num, by simp; omega, by simp, ?_, q1, q2, q3⟩
              rw [← HTl.out, ed.out]; simp [tl128, show ¬ q = 0 by omega]
            case measure => simp [intOf]
    · have HN : Hid (n / 128 ^ (i + 1) = v / 128) := by show _ = _; rw [div_step, ← HV.out]
      have hi3 : i < 4 := cnt128_lt n i hn2 (by rw [← HV.out]; omega)
      go_wp2
      go_roundw
      case rel =>
        refine ⟨i + 1, v / 128, by omega, HN.out.symm, by go_num, by go_num, fun j h1 h2 => ?_, HP.out, HB.out⟩
        by_cases hj : j ≤ i
        · exact HMore.out j h1 hj
        · rw [show j = i + 1 by omega, HN.out]; omega
      case measure => simp [intOf]; omega
end Go.Proofs.Qxb6604565a
