import Derived.Test.Qxb6604485aSd
namespace Go.Proofs.Qxb6604485a
open Go.RowKit
set_option linter.unusedVariables false

set_option maxHeartbeats 8000000 in
set_option maxRecDepth 100000 in
theorem lawB (w : World) (dp dr : Int) (m : ByteArray) (a3 a4 a5 a6 a7 : Option Addr) (c3 c4 c5 c6 c7 : Nat) (ss : List ByteArray) (pb : List Bool) (pz : List Int) (rb : List Bool) (rz : List Int)
    (h3 : Strs w a3 ss) (h4 : SB w a4 pb) (h5 : SI w a5 pz) (h6 : SB w a6 rb) (h7 : SI w a7 rz) :
    Calls Try.prog 6 #[.int .i64 dp, .int .i64 dr, .string m, .slice a3 ss.length c3, .slice a4 pb.length c4, .slice a5 pz.length c5, .slice a6 rb.length c6, .slice a7 rz.length c7] w fun e w' => e = .returned (.bool true) ∧ Below w.heap.size w w' := by
  have HB := bytes21 w dp dr m a3 a4 a5 a6 a7 pb.length pz.length rb.length rz.length c3 c4 c5 c6 c7 ss h3
  have HF := fits_any w m a3 a4 a5 a6 a7 pb.length pz.length rb.length rz.length c3 c4 c5 c6 c7 ss h3
  have H3 : Hid (Strs w a3 ss) := h3
  have H4 : Hid (SB w a4 pb) := h4
  have H5 : Hid (SI w a5 pz) := h5
  have H6 : Hid (SB w a6 rb) := h6
  have H7 : Hid (SI w a7 rz) := h7
  clear h3 h4 h5 h6 h7
  obtain ⟨n, en⟩ : ∃ n, Hid (n = ss.length) := ⟨_, rfl⟩
  obtain ⟨n4, en4⟩ : ∃ n, Hid (n = pb.length) := ⟨_, rfl⟩
  obtain ⟨n5, en5⟩ : ∃ n, Hid (n = pz.length) := ⟨_, rfl⟩
  obtain ⟨n6, en6⟩ : ∃ n, Hid (n = rb.length) := ⟨_, rfl⟩
  obtain ⟨n7, en7⟩ : ∃ n, Hid (n = rz.length) := ⟨_, rfl⟩
  rw [← en.out, ← en4.out, ← en5.out, ← en6.out, ← en7.out] at HB HF ⊢
  go_enter Try.func6, Try.ntmps6
  go_wp2_with fail
  refine HB.mono ?_
  clear HB
  rintro e w' ⟨⟨r, rfl, _⟩, rfl⟩
  cases r
  · go_wp2
    go_ret
    exact ⟨rfl, Below.refl _ _⟩
  go_wp2_with fail
  refine HF.mono ?_
  clear HF
  rintro e w' ⟨⟨r, rfl, hfit⟩, rfl⟩
  cases r
  · go_wp2
    go_ret
    exact ⟨rfl, Below.refl _ _⟩
  obtain ⟨hpos, hle, f2, f3, f4, f5⟩ := hfit rfl
  have f2' := f2.symm
  have f3' := f3.symm
  have f4' := f4.symm
  have f5' := f5.symm
  subst f2' f3' f4' f5'
  clear hfit f2 f3 f4 f5
  obtain ⟨b3, o3, ea3, A3⟩ := H3.out (by rw [← en.out]; exact hpos)
  obtain ⟨b4, o4, ea4, A4⟩ := H4.out (by rw [← en4.out]; exact hpos)
  obtain ⟨b5, o5, ea5, A5⟩ := H5.out (by rw [← en5.out]; exact hpos)
  obtain ⟨b6, o6, ea6, A6⟩ := H6.out (by rw [← en6.out]; exact hpos)
  obtain ⟨b7, o7, ea7, A7⟩ := H7.out (by rw [← en7.out]; exact hpos)
  subst ea3 ea4 ea5 ea6 ea7
  have lt3 := lt_of_cell (A3 0 (by rw [← en.out]; exact hpos))
  have lt4 := lt_of_cell (A4 0 (by rw [← en4.out]; exact hpos))
  have lt5 := lt_of_cell (A5 0 (by rw [← en5.out]; exact hpos))
  have lt6 := lt_of_cell (A6 0 (by rw [← en6.out]; exact hpos))
  have lt7 := lt_of_cell (A7 0 (by rw [← en7.out]; exact hpos))
  have HC := chain_any w n b3 o3 c3 b4 o4 c4 b5 o5 c5 b6 o6 c6 b7 o7 c7 ss pb pz rb rz en.out.symm en4.out.symm en5.out.symm en6.out.symm en7.out.symm A3 A4 A5 A6 A7 lt3 lt4 lt5 lt6 lt7 hle
  have HM := fun (w1 : World) (hb : Below w.heap.size w w1) => model_any w1 dr m n b6 o6 c6 b7 o7 c7 rb rz en6.out.symm en7.out.symm (A6.below hb lt6) (A7.below hb lt7) (Nat.lt_of_lt_of_le lt6 hb.size) (Nat.lt_of_lt_of_le lt7 hb.size) hpos hle
  clear A3 A4 A5 A6 A7 H3 H4 H5 H6 H7 lt3 lt4 lt5 lt6 lt7
  obtain ⟨l, el⟩ : ∃ l, Hid (l = items n pb pz rb rz) := ⟨_, rfl⟩
  have hll : l.length = n := by rw [el.out, items_length]
  have HLL : Hid (l.length = n) := hll
  have HL2 : Hid (opts n rb rz = l.map (·.2)) := by show _ = _; rw [el.out, items_snd]
  rw [← el.out] at HC
  rw [HL2.out] at HM
  clear hll
  go_wp2_with fail
  refine HC.mono ?_
  clear HC
  rintro e w1 ⟨p, rfl, hch, hb1⟩
  go_wp2_with fail
  refine (state_new w1 dp dr m).mono ?_
  rintro e w2 ⟨rfl, hst, hsz, hb2⟩
  have hbw2 : Below w.heap.size w w2 := hb1.trans (hb2.mono hb1.size)
  have HR := zzRequeue w2 w2.heap.size w1.heap.size p l dp dr m (Nat.le_refl _) (by omega) (hch.below hb2 hb2.size) hst (by rw [HLL.out]; exact hpos) (by rw [HLL.out]; exact hle)
  have HPre := fun (w' : World) (hb : Below w2.heap.size w2 w') => zzPreempt w' w2.heap.size w1.heap.size p l dp dr m hb.size ((hch.below hb2 hb2.size).below hb (Nat.le_refl _)) (hst.below hb (by omega))
  have hGl : (reqs dp dr m l).length ≤ 2048 := by
    have h1 := asc_length (firstD dp (l.map (·.1)) :: asc (recls (isQ m) dr (l.map (·.2))))
    have h2 := asc_length (recls (isQ m) dr (l.map (·.2)))
    have h3 := recls_length (isQ m) dr (l.map (·.2))
    have h4 := HLL.out
    simp at h1 h3
    unfold reqs
    omega
  have hGa := reqs_asc dp dr m l
  have hGm := reqs_mem dp dr m l
  have hRl := recls_length (isQ m) dr (l.map (·.2))
  rw [List.length_map, HLL.out] at hRl
  obtain ⟨G, eG⟩ : ∃ G, Hid (G = reqs dp dr m l) := ⟨_, rfl⟩
  obtain ⟨R, eR⟩ : ∃ R, Hid (R = recls (isQ m) dr (l.map (·.2))) := ⟨_, rfl⟩
  obtain ⟨v, ev⟩ : ∃ v, Hid (v = firstD dp (l.map (·.1))) := ⟨_, rfl⟩
  rw [← eG.out] at HR hGl hGa hGm
  rw [← eR.out] at HM hRl hGm
  rw [← ev.out] at hGm
  simp only [← ev.out] at HPre
  have HGa : Hid (Asc G) := hGa
  have HGm : Hid (∀ a, a ∈ G ↔ a = v ∨ a ∈ R) := hGm
  have Hbw2 : Hid (Below w.heap.size w w2) := hbw2
  clear hst hsz hb1 hb2 hch hGa hGm hbw2 eG eR ev el HLL HL2
  go_wp2_with fail
  refine HR.mono ?_
  clear HR
  rintro e w3 ⟨g, cap, rfl, hg, hrow, hb3⟩
  have hbw3 : Below w.heap.size w w3 := Hbw2.out.trans (hb3.mono Hbw2.out.size)
  have Hbw3 : Hid (Below w.heap.size w w3) := hbw3
  have HRow : Hid (Row 49 w3 g cap G) := hrow
  have HPr := HPre w3 hb3
  obtain ⟨k, ek⟩ : ∃ k, Hid (k = G.length) := ⟨_, rfl⟩
  rw [← ek.out] at hGl ⊢
  clear HPre Hbw2 hbw3 hb3 hrow hg
  go_wp2_with fail
  refine HPr.mono ?_
  clear HPr
  rintro e w4 ⟨g1, rfl, hg1, hrow1, hb4⟩
  have hbw4 : Below w.heap.size w w4 := Hbw3.out.trans (hb4.mono Hbw3.out.size)
  have HRow4 : Hid (Row 49 w4 g cap G) := HRow.out.below hb4 HRow.out.lt
  have HRow1 : Hid (Row 49 w4 g1 1 [v]) := hrow1
  have HMo := HM w4 hbw4
  have Hbw4 : Hid (Below w.heap.size w w4) := hbw4
  clear HM HRow Hbw3 hbw4 hb4 hrow1 hg1
  go_wp2_with fail
  refine HMo.mono ?_
  clear HMo
  rintro e w5 ⟨rfl, hrow5, hb5⟩
  have HG5 : Hid (Row 49 w5 g cap G) := HRow4.out.below hb5 HRow4.out.lt
  have HV5 : Hid (Row 49 w5 g1 1 [v]) := HRow1.out.below hb5 HRow1.out.lt
  have HR5 : Hid (Row 2 w5 w4.heap.size n R) := hrow5
  have hg4 : Hid (g < w4.heap.size) := HRow4.out.lt
  have hg14 : Hid (g1 < w4.heap.size) := HRow1.out.lt
  have h54 : w4.heap.size < w5.heap.size := hrow5.lt
  have Hbw5 : Hid (Below w.heap.size w w5) := Hbw4.out.trans (hb5.mono Hbw4.out.size)
  have Hw4 : Hid (w.heap.size ≤ w4.heap.size) := Hbw4.out.size
  obtain ⟨B, eB⟩ : ∃ B, Hid (B = w4.heap.size) := ⟨_, rfl⟩
  rw [← eB.out] at HR5 hg4 hg14 h54 Hw4 ⊢
  obtain ⟨rl, erl⟩ : ∃ k, Hid (k = R.length) := ⟨_, rfl⟩
  rw [← erl.out] at hRl ⊢
  obtain ⟨i0, hi, hz0, hz1, hz2⟩ := info_parts Try.info2z
  clear hrow5 hb5 HRow4 HRow1 Hbw4
  have HOwn : Hid (w5.ownsRow B 2 1 (.slice (some ⟨B, 0, none⟩) rl n) rl (R.map (Value.int .i64))) := by
    show w5.ownsRow _ _ _ _ _ _
    rw [erl.out]; exact HR5.out.owns B (Nat.le_refl _) (by unfold maxLen; omega)
  go_wp2
  go_loopw [21, 22] (fun all i wr => (i = .int .i64 0 ∧ all = .slice (some ⟨B, 0, none⟩) rl n ∧ wr = w5) ∨ (i = .int .i64 1 ∧ wr.ownsRow B 2 1 all (R ++ [v]).length ((R ++ [v]).map (Value.int .i64)) ∧ Below B w5 wr)) (fun _ i _ => 1 - (intOf i).toNat)
  case atStart => exact Or.inl ⟨rfl, rfl, rfl⟩
  case round =>
    rcases hrel with ⟨rfl, rfl, ew⟩ | ⟨rfl, hown, hb6⟩
    · have ew' := ew.symm
      subst ew'
      have d1 : w5.cell? ⟨g1, 0, none⟩ = some (.int .i64 v) := HV5.out.cell 0 (by simp)
      go_wp2_with (at_builtin; refine wpList_append_own _ rfl _ _ 22 rfl B 2 i0 (.int .i64 0) 1 8 Try.underlying22 hi hz0 hz1 hz2 rfl (by decide) _ _ _ rfl (HOwn.out.alloc _) ⟨w5.heap.size, 0, none⟩ 1 1 [.int .i64 v] rfl rfl ?c1 ?c2 ?c3 ?c4 ?c5 ?_)
      case c2 => first | rfl | (intro u hu; simp at hu; subst hu; rfl)
      case c3 => unfold maxLen; omega
      case c4 => omega
      case c5 => omega
      intro v' w6 hown6 hgr6 _
      have HO : Hid (w6.ownsRow B 2 1 v' (R ++ [v]).length ((R ++ [v]).map (Value.int .i64)) ∧ Below B w5 w6) := by
        refine ⟨?_, below_own ((Below.refl B w5).alloc (by omega) _) (by simp; omega) (HOwn.out.alloc _) hgr6⟩
        rw [erl.out] at hown6
        simpa using hown6
      clear hown6 hgr6
      go_wp2
      go_roundw
      case rel => exact Or.inr ⟨rfl, HO.out.1, HO.out.2⟩
      case measure => simp [intOf]
    · clear HOwn HV5 hg14
      rcases hown.2 with ⟨_, h⟩ | ⟨g6, cap6, cur6, hv6, hg6, hh6, _⟩
      · simp at h
      rw [hv6] at hown
      have HRow6 : Hid (Row 2 wr g6 cap6 (R ++ [v])) := Row.own hown
      have HG6 : Hid (Row 49 wr g cap G) := HG5.out.below hb6 hg4.out
      have Hbw6 : Hid (Below w.heap.size w wr) := Hbw5.out.trans (hb6.mono Hw4.out)
      have HSd := sd_any wr g6 cap6 (R ++ [v]) HRow6.out (by simp; rw [← erl.out]; omega)
      rw [hv6]
      clear hown hh6 hb6 HG5 Hbw5 HR5 hv6
      obtain ⟨al, eal⟩ : ∃ al, Hid (al = (R ++ [v]).length) := ⟨_, rfl⟩
      rw [← eal.out] at HSd ⊢
      go_wp2_with fail
      refine HSd.mono ?_
      clear HSd
      rintro e w7 ⟨us, hasc, hmem, rfl, hrow7, hb7⟩
      have hus : us = G := asc_ext hasc HGa.out fun a => by rw [hmem a, HGm.out a]; simp [or_comm]
      subst hus
      have HU7 : Hid (Row 2 w7 wr.heap.size al us) := hrow7
      have HG7 : Hid (Row 49 w7 g cap us) := HG6.out.below hb7 HG6.out.lt
      have Hbw7 : Hid (Below w.heap.size w w7) := Hbw6.out.trans (hb7.mono Hbw6.out.size)
      rw [← ek.out]
      clear hrow7 hb7 hasc hmem HG6 HRow6 Hbw6
      obtain ⟨B7, eB7⟩ : ∃ B, Hid (B = wr.heap.size) := ⟨_, rfl⟩
      rw [← eB7.out] at HU7 ⊢
      go_wp2
      go_loopw [24] (fun i wr => ∃ j nq : Nat, j ≤ k ∧ i = .int .i64 j ∧ wr = w7.drewN nq) (fun i _ => k - (intOf i).toNat)
      case atStart => exact ⟨0, 0, Nat.zero_le _, rfl, rfl⟩
      case round =>
        obtain ⟨j, nq, hj, rfl, rfl⟩ := hrel
        by_cases hjk : j < k
        · have d1 := HG7.out.cell j (by rw [← ek.out]; exact hjk)
          have d2 := HU7.out.cell j (by rw [← ek.out]; exact hjk)
          obtain ⟨x, ex⟩ : ∃ x, Hid (x = us.getD j 0) := ⟨_, rfl⟩
          rw [← ex.out] at d1 d2
          go_wp2
          go_region
          all_goals
            go_wp2
            go_roundw
            case rel => exact ⟨j + 1, _, by omega, by go_num, rfl⟩
            case measure => simp [intOf]; omega
        · go_wp2
          go_ret
          exact ⟨rfl, below_drewN Hbw7.out _⟩
end Go.Proofs.Qxb6604485a
