import Derived.Test.Qxb6604485aGuard
namespace Go.Proofs.Qxb6604485a
open Go.RowKit
set_option linter.unusedVariables false

def SB (w : World) (a : Option Addr) (bl : List Bool) : Prop := 0 < bl.length → ∃ b off, a = some ⟨b, off, none⟩ ∧ ArgB w b off bl
def SI (w : World) (a : Option Addr) (zs : List Int) : Prop := 0 < zs.length → ∃ b off, a = some ⟨b, off, none⟩ ∧ ArgI w b off zs

theorem asc_get {l : List Int} (h : Asc l) {i j : Nat} (hij : i < j) (hj : j < l.length) : l.getD i 0 < l.getD j 0 := by
  have := List.pairwise_iff_getElem.1 h i j (by omega) hj hij
  simpa [show i < l.length by omega, hj] using this
theorem getD_mem {l : List Int} {i : Nat} (h : i < l.length) : l.getD i 0 ∈ l := by simp [h]
theorem mem_getD {l : List Int} {x : Int} (h : x ∈ l) : ∃ i, i < l.length ∧ l.getD i 0 = x := by
  obtain ⟨i, hi, e⟩ := List.mem_iff_getElem.1 h
  exact ⟨i, hi, by simp [hi, e]⟩

set_option maxHeartbeats 8000000 in
set_option maxRecDepth 100000 in
theorem lawA (w : World) (dp dr : Int) (m : ByteArray) (a3 a4 a5 a6 a7 : Option Addr) (c3 c4 c5 c6 c7 : Nat) (ss : List ByteArray) (pb : List Bool) (pz : List Int) (rb : List Bool) (rz : List Int)
    (h3 : Strs w a3 ss) (h4 : SB w a4 pb) (h5 : SI w a5 pz) (h6 : SB w a6 rb) (h7 : SI w a7 rz) :
    Calls Try.prog 7 #[.int .i64 dp, .int .i64 dr, .string m, .slice a3 ss.length c3, .slice a4 pb.length c4, .slice a5 pz.length c5, .slice a6 rb.length c6, .slice a7 rz.length c7] w fun e w' => e = .returned (.bool true) ∧ Below w.heap.size w w' := by
  have HB := bytes29 w dp dr m a3 a4 a5 a6 a7 pb.length pz.length rb.length rz.length c3 c4 c5 c6 c7 ss h3
  have HF := fits_any w m a3 a4 a5 a6 a7 pb.length pz.length rb.length rz.length c3 c4 c5 c6 c7 ss h3
  have H3 : Hid (Strs w a3 ss) := h3
  have H4 : Hid (SB w a4 pb) := h4
  have H5 : Hid (SI w a5 pz) := h5
  have H6 : Hid (SB w a6 rb) := h6
  have H7 : Hid (SI w a7 rz) := h7
  clear h3 h4 h5 h6 h7
  obtain ⟨n, en⟩ : ∃ n, Hid (n = ss.length) := ⟨_, rfl⟩
  obtain ⟨n4, en4⟩ : ∃ n, Hid (n = pb.length) := ⟨_, rfl⟩
  obtain ⟨n5, en5⟩ : ∃ n, Hid (n = pz.length) := ⟨_, rfl⟩
  obtain ⟨n6, en6⟩ : ∃ n, Hid (n = rb.length) := ⟨_, rfl⟩
  obtain ⟨n7, en7⟩ : ∃ n, Hid (n = rz.length) := ⟨_, rfl⟩
  rw [← en.out, ← en4.out, ← en5.out, ← en6.out, ← en7.out] at HB HF ⊢
  go_enter Try.func7, Try.ntmps7
  go_wp2_with fail
  refine HB.mono ?_
  clear HB
  rintro e w' ⟨⟨r, rfl, _⟩, rfl⟩
  cases r
  · go_wp2
    go_ret
    exact ⟨rfl, Below.refl _ _⟩
  go_wp2_with fail
  refine HF.mono ?_
  clear HF
  rintro e w' ⟨⟨r, rfl, hfit⟩, rfl⟩
  cases r
  · go_wp2
    go_ret
    exact ⟨rfl, Below.refl _ _⟩
  obtain ⟨hpos, hle, f2, f3, f4, f5⟩ := hfit rfl
  have f2' := f2.symm
  have f3' := f3.symm
  have f4' := f4.symm
  have f5' := f5.symm
  subst f2' f3' f4' f5'
  clear hfit f2 f3 f4 f5
  obtain ⟨b3, o3, ea3, A3⟩ := H3.out (by rw [← en.out]; exact hpos)
  obtain ⟨b4, o4, ea4, A4⟩ := H4.out (by rw [← en4.out]; exact hpos)
  obtain ⟨b5, o5, ea5, A5⟩ := H5.out (by rw [← en5.out]; exact hpos)
  obtain ⟨b6, o6, ea6, A6⟩ := H6.out (by rw [← en6.out]; exact hpos)
  obtain ⟨b7, o7, ea7, A7⟩ := H7.out (by rw [← en7.out]; exact hpos)
  subst ea3 ea4 ea5 ea6 ea7
  have lt3 := lt_of_cell (A3 0 (by rw [← en.out]; exact hpos))
  have lt4 := lt_of_cell (A4 0 (by rw [← en4.out]; exact hpos))
  have lt5 := lt_of_cell (A5 0 (by rw [← en5.out]; exact hpos))
  have lt6 := lt_of_cell (A6 0 (by rw [← en6.out]; exact hpos))
  have lt7 := lt_of_cell (A7 0 (by rw [← en7.out]; exact hpos))
  have HC := chain_any w n b3 o3 c3 b4 o4 c4 b5 o5 c5 b6 o6 c6 b7 o7 c7 ss pb pz rb rz en.out.symm en4.out.symm en5.out.symm en6.out.symm en7.out.symm A3 A4 A5 A6 A7 lt3 lt4 lt5 lt6 lt7 hle
  have HM := fun (w1 : World) (hb : Below w.heap.size w w1) => model_any w1 dr m n b6 o6 c6 b7 o7 c7 rb rz en6.out.symm en7.out.symm (A6.below hb lt6) (A7.below hb lt7) (Nat.lt_of_lt_of_le lt6 hb.size) (Nat.lt_of_lt_of_le lt7 hb.size) hpos hle
  clear A3 A4 A5 A6 A7 H3 H4 H5 H6 H7 lt3 lt4 lt5 lt6 lt7
  obtain ⟨l, el⟩ : ∃ l, Hid (l = items n pb pz rb rz) := ⟨_, rfl⟩
  have hll : l.length = n := by rw [el.out, items_length]
  have HLL : Hid (l.length = n) := hll
  have HL2 : Hid (opts n rb rz = l.map (·.2)) := by show _ = _; rw [el.out, items_snd]
  rw [← el.out] at HC
  rw [HL2.out] at HM
  clear hll
  go_wp2_with fail
  refine HC.mono ?_
  clear HC
  rintro e w1 ⟨p, rfl, hch, hb1⟩
  go_wp2_with fail
  refine (state_new w1 dp dr m).mono ?_
  rintro e w2 ⟨rfl, hst, hsz, hb2⟩
  have hbw2 : Below w.heap.size w w2 := hb1.trans (hb2.mono hb1.size)
  have HR := zzRequeue w2 w2.heap.size w1.heap.size p l dp dr m (Nat.le_refl _) (by omega) (hch.below hb2 hb2.size) hst (by rw [HLL.out]; exact hpos) (by rw [HLL.out]; exact hle)
  have hGl : (reqs dp dr m l).length ≤ 2048 := by
    have h1 := asc_length (firstD dp (l.map (·.1)) :: asc (recls (isQ m) dr (l.map (·.2))))
    have h2 := asc_length (recls (isQ m) dr (l.map (·.2)))
    have h3 := recls_length (isQ m) dr (l.map (·.2))
    have h4 := HLL.out
    simp at h1 h3
    unfold reqs
    omega
  have hGa := reqs_asc dp dr m l
  have hGm := reqs_mem dp dr m l
  have hRl := recls_length (isQ m) dr (l.map (·.2))
  rw [List.length_map, HLL.out] at hRl
  obtain ⟨G, eG⟩ : ∃ G, Hid (G = reqs dp dr m l) := ⟨_, rfl⟩
  obtain ⟨R, eR⟩ : ∃ R, Hid (R = recls (isQ m) dr (l.map (·.2))) := ⟨_, rfl⟩
  obtain ⟨v, ev⟩ : ∃ v, Hid (v = firstD dp (l.map (·.1))) := ⟨_, rfl⟩
  rw [← eG.out] at HR hGl hGa hGm
  rw [← eR.out] at HM hRl hGm
  rw [← ev.out] at hGm
  have HGa : Hid (Asc G) := hGa
  have HGm : Hid (∀ a, a ∈ G ↔ a = v ∨ a ∈ R) := hGm
  have Hbw2 : Hid (Below w.heap.size w w2) := hbw2
  clear hst hsz hb1 hb2 hch hGa hGm hbw2 eG eR ev el HLL HL2
  go_wp2_with fail
  refine HR.mono ?_
  clear HR
  rintro e w3 ⟨g, cap, rfl, hg, hrow, hb3⟩
  have hbw3 : Below w.heap.size w w3 := Hbw2.out.trans (hb3.mono Hbw2.out.size)
  have HM3 := fun nq => HM (w3.drewN nq) (below_drewN hbw3 nq)
  simp only [World.heap_drewN] at HM3
  have Hbw3 : Hid (Below w.heap.size w w3) := hbw3
  have HRow : Hid (Row 49 w3 g cap G) := hrow
  obtain ⟨k, ek⟩ : ∃ k, Hid (k = G.length) := ⟨_, rfl⟩
  rw [← ek.out] at hGl ⊢
  clear HM Hbw2 hbw3 hb3 hrow hg
  go_wp2
  go_loopw [20] (fun i wr => ∃ j nq : Nat, 1 ≤ j ∧ (j ≤ k ∨ j = 1) ∧ i = .int .i64 j ∧ wr = w3.drewN nq) (fun i _ => k - (intOf i).toNat)
  case atStart => exact ⟨1, 0, Nat.le_refl _, Or.inr rfl, rfl, rfl⟩
  case round =>
    obtain ⟨j, nq, hj1, hj2, rfl, rfl⟩ := hrel
    by_cases hjk : j < k
    · have d1 := HRow.out.cell (j - 1) (by rw [← ek.out]; omega)
      have d2 := HRow.out.cell j (by rw [← ek.out]; exact hjk)
      have d3 : G.getD (j - 1) 0 < G.getD j 0 := asc_get HGa.out (by omega) (by rw [← ek.out]; exact hjk)
      obtain ⟨x, ex⟩ : ∃ x, Hid (x = G.getD (j - 1) 0) := ⟨_, rfl⟩
      obtain ⟨y, ey⟩ : ∃ y, Hid (y = G.getD j 0) := ⟨_, rfl⟩
      rw [← ex.out] at d1 d3
      rw [← ey.out] at d2 d3
      go_wp2
      go_region
      all_goals
        go_wp2
        go_roundw
        case rel => exact ⟨j + 1, nq + 1, by omega, by omega, by go_num, rfl⟩
        case measure => simp [intOf]; omega
    · go_wp2_with fail
      refine (HM3 nq).mono ?_
      clear HM3
      rintro e w4 ⟨rfl, hr4, hb4⟩
      have HR4 : Hid (Row 2 w4 w3.heap.size n R) := hr4
      have HG4 : Hid (Row 49 w4 g cap G) := HRow.out.same (hb4.block g HRow.out.lt)
      have Hbw4 : Hid (Below w.heap.size w w4) := (below_drewN Hbw3.out nq).trans (hb4.mono Hbw3.out.size)
      obtain ⟨B, eB⟩ : ∃ B, Hid (B = w3.heap.size) := ⟨_, rfl⟩
      rw [← eB.out] at HR4 ⊢
      obtain ⟨rl, erl⟩ : ∃ k, Hid (k = R.length) := ⟨_, rfl⟩
      rw [← erl.out] at hRl ⊢
      clear hr4 hb4 HRow Hbw3
      go_wp2
      go_loopw [22] (fun i wr => ∃ j nq : Nat, j ≤ rl ∧ i = .int .i64 j ∧ wr = w4.drewN nq) (fun i _ => rl - (intOf i).toNat)
      case atStart => exact ⟨0, 0, Nat.zero_le _, rfl, rfl⟩
      case round =>
        obtain ⟨q, nq2, hq, rfl, rfl⟩ := hrel
        by_cases hqr : q < rl
        · have d1 := HR4.out.cell q (by rw [← erl.out]; exact hqr)
          have hmem : R.getD q 0 ∈ G := (HGm.out _).2 (Or.inr (getD_mem (by rw [← erl.out]; exact hqr)))
          obtain ⟨x, ex⟩ : ∃ x, Hid (x = R.getD q 0) := ⟨_, rfl⟩
          rw [← ex.out] at d1 hmem
          have HMem : Hid (x ∈ G) := hmem
          clear hmem
          go_wp2
          go_loopw [23, 24] (fun inn i wr => ∃ t nq : Nat, t ≤ k ∧ inn = .bool false ∧ i = .int .i64 t ∧ (∀ i', i' < t → G.getD i' 0 ≠ x) ∧ wr = w4.drewN nq) (fun _ i _ => k - (intOf i).toNat)
          case atStart => exact ⟨0, nq2, Nat.zero_le _, rfl, rfl, fun i' h => by omega, rfl⟩
          case round =>
            obtain ⟨t, nq3, ht, rfl, rfl, hno, rfl⟩ := hrel
            have HNo : Hid (∀ i', i' < t → G.getD i' 0 ≠ x) := hno
            clear hno
            have htk : t < k := by
              obtain ⟨i', hi', e'⟩ := mem_getD HMem.out
              rw [← ek.out] at hi'
              by_cases h : t < k
              · exact h
              · exact absurd e' (HNo.out i' (by omega))
            have d2 := HG4.out.cell t (by rw [← ek.out]; exact htk)
            obtain ⟨y, ey⟩ : ∃ y, Hid (y = G.getD t 0) := ⟨_, rfl⟩
            rw [← ey.out] at d2
            by_cases hyx : y = x
            · have hyb : (y == x) = true := by simp [hyx]
              clear hyx
              go_wp2
              go_region
              all_goals
                go_wp2
                go_roundw
                case rel => exact ⟨q + 1, _, by omega, by go_num, rfl⟩
                case measure => simp [intOf]; omega
            · have hyb : (y == x) = false := by simp [hyx]
              have HYX : Hid (¬ y = x) := hyx
              clear hyx
              go_wp2
              go_region
              all_goals
                go_wp2
                go_roundw
                case rel =>
                  refine ⟨t + 1, _, by omega, rfl, by go_num, fun i' hi' => ?_, rfl⟩
                  by_cases h : i' < t
                  · exact HNo.out i' h
                  · rw [show i' = t by omega, ← ey.out]; exact HYX.out
                case measure => simp [intOf]; omega
        · go_wp2
          go_loopw [25, 26] (fun cnt i wr => ∃ c t nq : Nat, t ≤ k ∧ c ≤ 1 ∧ cnt = .int .i64 c ∧ i = .int .i64 t ∧ (c = 1 → ∃ i', i' < t ∧ G.getD i' 0 = v) ∧ wr = w4.drewN nq) (fun _ i _ => k - (intOf i).toNat)
          case atStart => exact ⟨0, 0, nq2, Nat.zero_le _, by omega, rfl, rfl, fun h => by omega, rfl⟩
          case round =>
            obtain ⟨c, t, nq3, ht, hc, rfl, rfl, hcv, rfl⟩ := hrel
            have HCV : Hid (c = 1 → ∃ i', i' < t ∧ G.getD i' 0 = v) := hcv
            clear hcv
            by_cases htk : t < k
            · have d2 := HG4.out.cell t (by rw [← ek.out]; exact htk)
              obtain ⟨y, ey⟩ : ∃ y, Hid (y = G.getD t 0) := ⟨_, rfl⟩
              rw [← ey.out] at d2
              go_wp2
              go_loopw [27, 28] (fun inn i wr => ∃ q nq : Nat, q ≤ rl ∧ inn = .bool false ∧ i = .int .i64 q ∧ (∀ i', i' < q → R.getD i' 0 ≠ y) ∧ wr = w4.drewN nq) (fun _ i _ => rl - (intOf i).toNat)
              case atStart => exact ⟨0, nq3, Nat.zero_le _, rfl, rfl, fun i' h => by omega, rfl⟩
              case round =>
                obtain ⟨q', nq4, hq', rfl, rfl, hno, rfl⟩ := hrel
                have HNo : Hid (∀ i', i' < q' → R.getD i' 0 ≠ y) := hno
                clear hno
                by_cases hqr' : q' < rl
                · have d1 := HR4.out.cell q' (by rw [← erl.out]; exact hqr')
                  obtain ⟨x, ex⟩ : ∃ x, Hid (x = R.getD q' 0) := ⟨_, rfl⟩
                  rw [← ex.out] at d1
                  by_cases hyx : y = x
                  · have hyb : (y == x) = true := by simp [hyx]
                    clear hyx
                    go_wp2
                    go_region
                    all_goals
                      go_wp2
                      go_roundw
                      case rel => exact ⟨c, t + 1, _, by omega, hc, rfl, by go_num, fun h => by obtain ⟨i', h1, h2⟩ := HCV.out h; exact ⟨i', by omega, h2⟩, rfl⟩
                      case measure => simp [intOf]; omega
                  · have hyb : (y == x) = false := by simp [hyx]
                    have HYX : Hid (¬ y = x) := hyx
                    clear hyx
                    go_wp2
                    go_region
                    all_goals
                      go_wp2
                      go_roundw
                      case rel =>
                        refine ⟨q' + 1, _, by omega, rfl, by go_num, fun i' hi' => ?_, rfl⟩
                        by_cases h : i' < q'
                        · exact HNo.out i' h
                        · rw [show i' = q' by omega, ← ex.out]; exact fun h => HYX.out h.symm
                      case measure => simp [intOf]; omega
                · have hyv : y = v := by
                    rcases (HGm.out y).1 (by rw [ey.out]; exact getD_mem (by rw [← ek.out]; exact htk)) with h | h
                    · exact h
                    · obtain ⟨i', h1, h2⟩ := mem_getD h
                      rw [← erl.out] at h1
                      exact absurd h2 (HNo.out i' (by omega))
                  have hc0 : c = 0 := by
                    by_cases h : c = 1
                    · obtain ⟨i', h1, h2⟩ := HCV.out h
                      have h3 := asc_get HGa.out h1 (by rw [← ek.out]; exact htk)
                      rw [h2, ← ey.out, hyv] at h3
                      omega
                    · omega
                  have HYV : Hid (y = v) := hyv
                  clear hyv
                  subst hc0
                  go_wp2
                  go_roundw
                  case rel => exact ⟨1, t + 1, _, by omega, Nat.le_refl _, rfl, by go_num, fun _ => ⟨t, by omega, by rw [← ey.out]; exact HYV.out⟩, rfl⟩
                  case measure => simp [intOf]; omega
            · have hcle : (c : Int) ≤ 1 := by omega
              go_wp2
              go_ret
              exact ⟨by first | rfl | simp [hcle], below_drewN Hbw4.out _⟩
end Go.Proofs.Qxb6604485a
