import Derived.Test.Qxb6604343aClone
namespace Go.Proofs.Qxb6604343a
open Go.RowKit
set_option linter.unusedVariables false

theorem Try.info75 : (Try.prog.info? 75).map (fun i => i.size) = some 9 := by kernel_rfl
theorem Try.info81 : (Try.prog.info? 81).map (fun i => i.size) = some 8 := by kernel_rfl
theorem info_size {P : Program} {t : TypeId} {n : Nat} (h : (P.info? t).map (fun i => i.size) = some n) : ∃ i, P.info? t = some i ∧ i.size = n := by
  obtain ⟨i, hi, e⟩ := Option.map_eq_some_iff.1 h
  exact ⟨i, hi, e⟩
theorem run_neq_ptr_same {P : Program} (w : World) {tp te : TypeId} {j : TypeInfo} (a : Addr) (hp : P.underlying tp = some (.pointer te)) (hte : P.info? te = some j) :
    (binOp .neq tp (.pointer (some a)) (.pointer (some a))).run P w = .ok (.bool false) w := by
  have h : ∀ d : Nat, (Op.equalIn (d + 1) tp (.pointer (some a)) (.pointer (some a))).run P w = .ok true w := fun d => by
    simp [Op.equalIn, run_underlying hp, sizeOf, typeInfo, hte, run_sameAddr_same]
  simp only [binOp]
  simp [Op.equal, Op.maxDepth, h 9999]

/-- more than 4096 paths: true at once. -/
theorem walk_long (w : World) (m : Int) (a : Option Addr) (cap : Nat) (ss : List ByteArray) (hs : Strs w a ss) (hl : ss.length ≤ maxLen) (hlong : 4096 < ss.length) :
    Calls Try.prog 6 #[.int .i64 m, .slice a ss.length cap] w fun e w' => e = .returned (.bool true) ∧ Below w.heap.size w w' := by
  have hb := bytes_any w m a cap ss hs hl
  unfold maxLen at hl
  go_enter Try.func6, Try.ntmps6
  go_wp2_with fail
  refine hb.mono ?_
  clear hb
  rintro e w' ⟨⟨r, rfl⟩, rfl⟩
  cases r
  · go_wp2
    go_ret
    exact ⟨rfl, Below.refl _ _⟩
  · go_wp2
    go_ret
    exact ⟨rfl, Below.refl _ _⟩

set_option maxHeartbeats 2000000 in
set_option maxRecDepth 100000 in
theorem walk_short (w : World) (m : Int) (a : Option Addr) (cap : Nat) (ss : List ByteArray) (hs : Strs w a ss) (hlen : ss.length ≤ 4096) (hn : a = none → ss = [] ∧ cap = 0) :
    Calls Try.prog 6 #[.int .i64 m, .slice a ss.length cap] w fun e w' => e = .returned (.bool true) ∧ Below w.heap.size w w' := by
  have hb := bytes_any w m a cap ss hs (by unfold maxLen; omega)
  have HC := fun w' (h : Strs w' a ss) => clone_any w' a cap ss hlen h hn
  have HS : Hid (Strs w a ss) := hs
  clear hs hn
  obtain ⟨n, en⟩ : ∃ n, Hid (n = ss.length) := ⟨_, rfl⟩
  rw [← en.out] at hb hlen ⊢
  simp only [← en.out] at HC
  go_enter Try.func6, Try.ntmps6
  go_wp2_with fail
  refine hb.mono ?_
  clear hb
  rintro e w' ⟨⟨r, rfl⟩, rfl⟩
  cases r
  · go_wp2
    go_ret
    exact ⟨rfl, Below.refl _ _⟩
  go_wp2
  go_loop [5, 6] (fun z i => ∃ (k : Nat) (t : Int), k ≤ n ∧ i = .int .i64 k ∧ z = .int .i64 t) (fun _ i => n - (intOf i).toNat)
  case atStart => exact ⟨0, _, Nat.zero_le _, rfl, rfl⟩
  case round =>
    obtain ⟨k, t, hk, rfl, rfl⟩ := hrel
    by_cases hlt : k < n
    · obtain ⟨b, off, ea, hc⟩ := HS.out (by rw [← en.out]; omega)
      have hck := hc k (by rw [← en.out]; exact hlt)
      obtain ⟨s, hs⟩ : ∃ s, s = ss.getD k ByteArray.empty := ⟨_, rfl⟩
      rw [← hs] at hck
      clear hs hc HC
      subst ea
      go_wp2
      · go_ret
        exact ⟨rfl, Below.refl _ _⟩
      · go_round
        case rel => exact ⟨k + 1, _, by omega, by go_num, rfl⟩
        case measure => simp [intOf]; omega
    · go_wp2_with fail
      refine (HC w HS.out).mono ?_
      clear HC HS
      rintro e w1 ⟨a', rfl, hs1, hb1⟩
      have HS : Hid (Strs w1 a' ss) := hs1
      clear hs1
      go_wp2_with fail
      refine (pool_new w1 m).mono ?_
      rintro e w2 ⟨rfl, rfl⟩
      have hmk := fun w => run_make_row' 44 45 (.pointer none) 8 Try.underlying44 Try.info45 rfl .i64 .i64 n (by omega) (by omega) w
      simp only [made_cells] at hmk
      go_wp2
      clear hmk
      go_loopw [9] (fun i wr => ∃ j : Nat, j ≤ n ∧ i = .int .i64 j ∧ Inv w1.heap.size n m ss w1 j wr) (fun i _ => n - (intOf i).toNat)
      case atStart => exact ⟨0, Nat.zero_le _, rfl, by have := Inv.start n m ss w1; rwa [List.toArray_replicate] at this⟩
      case round =>
        obtain ⟨j, hj, rfl, hinv⟩ := hrel
        by_cases hjn : j < n
        · obtain ⟨b, off, ea, hc⟩ := HS.out (by rw [← en.out]; omega)
          have hck := hc j (by rw [← en.out]; exact hjn)
          have hbl : b < w1.heap.size := lt_of_cell hck
          have hck' : wr.cell? ⟨b, off + j, none⟩ = some (.string (ss.getD j ByteArray.empty)) := (hinv.below.cell hbl).trans hck
          subst ea
          have hfl : j < (filled (.pointer none) (hsV w1.heap.size n) j).length := by rw [filled_length _ _ _ (by rw [hsV_length]; omega), hsV_length]; exact hjn
          have hh : (wr.alloc (fileObj ⟨w1.heap.size, 0, none⟩ (ss.getD j ByteArray.empty))).heap[w1.heap.size + 1]? = some (.cells (filled (.pointer none) (hsV w1.heap.size n) j).toArray 45 (0, 0)) := by
            rw [Below.heap_alloc _ _ _ (by have := hinv.size; omega)]; exact hinv.hs
          have h2 : (wr.alloc (fileObj ⟨w1.heap.size, 0, none⟩ (ss.getD j ByteArray.empty))).cell? ⟨w1.heap.size + 1, j, none⟩ = some ((filled (.pointer none) (hsV w1.heap.size n) j)[j]'hfl) := cell_of hh (by simp)
          have h3 : (wr.alloc (fileObj ⟨w1.heap.size, 0, none⟩ (ss.getD j ByteArray.empty))).frozen? ⟨w1.heap.size + 1, j, none⟩ = false := frozen_of_row _ _ _ _ _ hh
          have R := hinv.step hjn (Nat.le_refl _)
          obtain ⟨s, es⟩ : ∃ s, Hid (s = ss.getD j ByteArray.empty) := ⟨_, rfl⟩
          rw [← es.out] at hck' h2 h3 R
          clear hc hck hh hinv
          go_wp2_with fail
          refine (file_new wr ⟨w1.heap.size, 0, none⟩ s).mono ?_
          rintro e w3 ⟨rfl, rfl⟩
          go_wp2
          go_roundw
          case rel => exact ⟨j + 1, by omega, by go_num, R⟩
          case measure => simp [intOf]; omega
        · obtain rfl : j = n := by omega
          obtain ⟨W, eW⟩ : ∃ W : World, W = wr := ⟨_, rfl⟩
          subst eW
          have hbW : Below w.heap.size w W := hb1.trans (hinv.below.mono hb1.size)
          obtain ⟨B, eB⟩ : ∃ B, Hid (B = w1.heap.size) := ⟨_, rfl⟩
          rw [← eB.out] at hinv ⊢
          have hhs : ∀ i, i < j → W.cell? ⟨B + 1, i, none⟩ = some (.pointer (some ⟨B + 2 + i, 0, none⟩)) := fun i hi => by
            have e := hinv.hs
            have e2 := filled_all (.pointer none) (hsV B j)
            rw [hsV_length] at e2
            rw [e2] at e
            exact cell_of e (by simpa using hsV_get B j i hi)
          have hstr : ∀ i, i < j → ∃ b off, a' = some ⟨b, off, none⟩ ∧ W.cell? ⟨b, off + i, none⟩ = some (.string (ss.getD i ByteArray.empty)) := fun i hi => by
            obtain ⟨b, off, ea, hc⟩ := HS.out (by rw [← en.out]; omega)
            have hci := hc i (by rw [← en.out]; exact hi)
            exact ⟨b, off, ea, (hinv.below.cell (by have := lt_of_cell hci; rw [eB.out]; exact this)).trans hci⟩
          have hfl : ∀ i, i < j → W.heap[B + 2 + i]? = some (fileObj ⟨B, 0, none⟩ (ss.getD i ByteArray.empty)) := hinv.files
          have hpool := hinv.pool
          clear hinv HS hb1
          obtain ⟨i75, hi75, _⟩ := info_size Try.info75
          obtain ⟨i81, hi81, hz81⟩ := info_size Try.info81
          go_wp2
          go_loopw [10] (fun v wr => ∃ i nq : Nat, i ≤ j ∧ v = .int .i64 i ∧ wr = W.drewN nq) (fun v _ => j - (intOf v).toNat)
          case atStart => exact ⟨0, 0, Nat.zero_le _, rfl, rfl⟩
          case round =>
            obtain ⟨i, nq, hi, rfl, rfl⟩ := hrel
            by_cases hij : i < j
            · have g1 := hhs i hij
              obtain ⟨b, off, ea, g2⟩ := hstr i hij
              subst ea
              have g3 := hfl i hij
              obtain ⟨s, es⟩ : ∃ s, Hid (s = ss.getD i ByteArray.empty) := ⟨_, rfl⟩
              rw [← es.out] at g2 g3
              have HH : Hid (∀ i, i < j → W.cell? ⟨B + 1, i, none⟩ = some (.pointer (some ⟨B + 2 + i, 0, none⟩))) := hhs
              have HF : Hid (∀ i, i < j → W.heap[B + 2 + i]? = some (fileObj ⟨B, 0, none⟩ (ss.getD i ByteArray.empty))) := hfl
              have G3 : Hid (W.heap[B + 2 + i]? = some (fileObj ⟨B, 0, none⟩ s)) := g3
              clear hhs hstr hfl g3 hpool hbW
              have qn := fun w => run_neq_ptr_same (P := Try.prog) w ⟨B, 0, none⟩ Try.underlying42 hi75
              go_wp2_with fail
              refine (file_state (W.drewN nq) (B + 2 + i) ⟨B, 0, none⟩ s G3.out).mono ?_
              rintro e w5 ⟨rfl, nq1, rfl⟩
              go_wp2
              clear qn
              go_loopw [18] (fun v wr => ∃ q nq2 : Nat, q ≤ i ∧ v = .int .i64 q ∧ wr = W.drewN nq2) (fun v _ => i - (intOf v).toNat)
              case atStart => exact ⟨0, _, Nat.zero_le _, rfl, rfl⟩
              case round =>
                obtain ⟨q, nq2, hq, rfl, rfl⟩ := hrel
                by_cases hqi : q < i
                · have d1 := HH.out q (by omega)
                  have d2 := HH.out i hij
                  have qe : ∀ nq3, (binOp .eql 45 (.pointer (some ⟨B + 2 + q, 0, none⟩)) (.pointer (some ⟨B + 2 + i, 0, none⟩))).run Try.prog (W.drewN nq3) = .ok (.bool false) (W.drewN nq3) := fun nq3 =>
                    run_eql_ptr_other (W.drewN nq3) Try.underlying45 hi81 (by rw [hz81]; decide) (by intro h; have := congrArg Addr.block h; simp at this; omega) (HF.out q (by omega)) (HF.out i hij)
                  go_wp2
                  go_region
                  all_goals
                    go_wp2
                    go_roundw
                    case rel => exact ⟨q + 1, _, by omega, by go_num, rfl⟩
                    case measure => simp [intOf]; omega
                · clear hi75 hi81 hz81
                  go_wp2
                  go_roundw
                  case rel => exact ⟨i + 1, nq2, by omega, by go_num, rfl⟩
                  case measure => simp [intOf]; omega
            · clear hhs hstr hfl
              go_wp2_with (go_at_call 20; refine (pool_state (W.drewN nq) B m hpool).mono ?_; rintro e w5 ⟨rfl, nq1, rfl⟩)
              go_ret
              exact ⟨rfl, below_drewN hbW _⟩
end Go.Proofs.Qxb6604343a
