import Derived.Test.Qxb6604565aLen
import Derived.Lib.JoinLaws
import Derived.Laws.BitsAllLaws
namespace Go.Proofs.Qxb6604565a
open Go.RowKit
set_option linter.unusedVariables false

/-- 'append' of ONE byte within the capacity of a row in whatever block (an array's too): the very world. -/
theorem wpList_append_arr {P : Program} (w : World) {ops : Array Oper} {rest : List Oper} {o : Oper} {a : Act} {Q : Exit → Act → World → Prop}
    (hg : o.guard = none) (s x : Operand) (t : TypeId) (hop : o.op = Op.call { callee := Callee.builtin Builtin.append, args := #[s, x], argTypes := #[t, t] })
    (e : TypeId) (i : TypeInfo) (h1 : P.underlying t = some (.slice e)) (h2 : P.info? e = some i) (h4 : i.size = 1)
    (tb : TypeId) (g cap : Nat) (zs : List Int) (k : Nat) (hk : k = zs.length) (hs : a.eval s = .slice (some ⟨g, 0, none⟩) k cap) (hrow : Row tb w g cap zs) (b c : Nat) (v : Int) (hx : a.eval x = .slice (some ⟨b, 0, none⟩) 1 c)
    (hv : w.cell? ⟨b, 0, none⟩ = some (.int .u8 v)) (hroom : zs.length < cap)
    (hK : wpList P ops Q rest (a.put o.dst (.slice (some ⟨g, 0, none⟩) (k + 1) cap)) (w.setCell ⟨g, k, none⟩ (.int .u8 v))) :
    wpList P ops Q (o :: rest) a w := by
  subst hk
  refine wpList_append_room_src w hg s x t t hop e i h1 h2 g 0 zs.length cap hs _ hx 1 [.int .u8 v] (Src.ofSlice w h1 _ _ _ _ (by simp [h4]) (fun j u hj => ?_) (by intro u hu; simp at hu; subst hu; rfl)) (by omega) (fun j hj => ?_) (fun j hj => ?_) ?_
  · match j, hj with
    | 0, hj => simp at hj; subst hj; simpa [Addr.add] using hv
  · obtain ⟨u, hu⟩ := hrow.held (0 + zs.length * i.size + j) (by simp at hj; rw [h4]; omega)
    rw [hu]; rfl
  · exact hrow.free _
  · rw [h4]
    simpa [World.setCells] using hK

/-- appending bytes to a row of the header: what is kept -/
theorem Row.more {t : TypeId} {w wr : World} {g cap : Nat} {zs : List Int} (h : Row t wr g cap zs) (hg : w.grownBy wr (some g)) (x : Int) (o : Obj) (hl : zs.length < cap) :
    Row t ((wr.setCell ⟨g, zs.length, none⟩ (.int .u8 x)).alloc o) g cap (zs ++ [x]) ∧ w.grownBy ((wr.setCell ⟨g, zs.length, none⟩ (.int .u8 x)).alloc o) (some g) :=
  ⟨(h.push x hl).grown (grownBy_alloc' _ o none) (by simp), grownBy_trans (grownBy_trans hg (grownBy_setCell _ _ _ _)) (grownBy_alloc' _ _ _)⟩

theorem and127 (a : Nat) : bits .and .u8 ((a : Int) % 256) 127 = ((a % 128 : Nat) : Int) := by
  have e : ((a : Int) % 256) = ((a % 256 : Nat) : Int) := by omega
  rw [e, show (127 : Int) = ((127 : Nat) : Int) from rfl, u8_and_nat (a % 256) 127 (by omega) (by omega)]
  have h : (a % 256) &&& 127 = (a % 256) % 128 := Nat.and_two_pow_sub_one_eq_mod (a % 256) 7
  rw [h]
  omega
theorem or128 (d : Nat) (h : d < 128) : bits .or .u8 (d : Int) 128 = (d : Int) + 128 := by
  rw [show (128 : Int) = ((128 : Nat) : Int) from rfl, u8_or_nat d 128 (by omega) (by omega)]
  have e : d ||| 128 = d + 128 := by
    have := Nat.two_pow_add_eq_or_of_lt (i := 7) (b := d) (by omega) 1
    simp at this
    rw [Nat.or_comm, ← this]; omega
  rw [e]; rfl
theorem shr7 (v q : Nat) : (v : Int) / 2 ^ (7 * q) = ((v / 128 ^ q : Nat) : Int) := by
  have e : (2 : Int) ^ (7 * q) = ((128 ^ q : Nat) : Int) := by
    rw [Int.pow_mul]
    simp
  rw [e]; simp
theorem shr8 (v q : Nat) : (v : Int) / 2 ^ (8 * q) = ((v / 256 ^ q : Nat) : Int) := by
  have e : (2 : Int) ^ (8 * q) = ((256 ^ q : Nat) : Int) := by
    rw [Int.pow_mul]
    simp
  rw [e]; simp
theorem digit_low (v : Nat) : bits .and .u8 ((v : Int) % 256) 127 = ((dig 128 v 0 : Nat) : Int) := by rw [and127]; simp [dig]
theorem digit_high (v q : Nat) : bits .or .u8 (bits .and .u8 ((v : Int) / 2 ^ (7 * q) % 256) 127) 128 = ((dig 128 v q : Nat) : Int) + 128 := by
  rw [shr7, and127, or128 _ (by omega)]; rfl

set_option maxHeartbeats 2000000 in
set_option maxRecDepth 100000 in
theorem base_any (w : World) (t : TypeId) (g v : Nat) (L0 : List Int) (hv : v < 4294967296) (hL0 : L0.length ≤ 4) (hr : Row t w g 16 L0) :
    Calls Try.prog 22 #[.slice (some ⟨g, 0, none⟩) L0.length 16, .int .u64 v] w fun e w' => ∃ k, IsCnt 128 v k ∧ e = .returned (.slice (some ⟨g, 0, none⟩) (L0.length + k) 16) ∧ Row t w' g 16 (L0 ++ tl128 v k) ∧ w.grownBy w' (some g) := by
  obtain ⟨i0, hi, hz0, hz1, hz2⟩ := info_parts Try.info5
  have HR : Hid (Row t w g 16 L0) := hr
  clear hr
  go_enter Try.func22, Try.ntmps22
  go_wp2
  go_loop [5, 6] (fun c x => ∃ k u : Nat, 1 ≤ k ∧ k ≤ 5 ∧ u = v / 128 ^ k ∧ c = .int .i64 k ∧ x = .int .u64 u ∧ (∀ j, 1 ≤ j → j < k → v / 128 ^ j ≠ 0)) (fun c _ => 6 - (intOf c).toNat)
  case atStart => exact ⟨1, v / 128, by omega, by omega, by simp, rfl, by go_num, fun j h1 h2 => by omega⟩
  case round =>
    obtain ⟨k, u, hk1, hk5, hu, rfl, rfl, hmore⟩ := hrel
    have HU : Hid (u = v / 128 ^ k) := hu
    have HMore : Hid (∀ j, 1 ≤ j → j < k → v / 128 ^ j ≠ 0) := hmore
    have hun : u < 4294967296 := by rw [hu]; exact Nat.lt_of_le_of_lt (Nat.div_le_self _ _) hv
    clear hu hmore
    by_cases hu0 : 0 < u
    · have HN : Hid (v / 128 ^ (k + 1) = u / 128) := by show _ = _; rw [div_step, ← HU.out]
      have hk4 : k < 5 := by
        by_cases h : k < 5
        · exact h
        · have h5 : k = 5 := by omega
          have := HU.out
          rw [h5, show (128 : Nat) ^ 5 = 34359738368 by decide] at this
          omega
      go_wp2
      go_round
      case rel =>
        refine ⟨k + 1, u / 128, by omega, by omega, HN.out.symm, by go_num, by go_num, fun j h1 h2 => ?_⟩
        by_cases hj : j < k
        · exact HMore.out j h1 hj
        · rw [show j = k by omega, ← HU.out]; omega
      case measure => simp [intOf]; omega
    · have hu0' : u = 0 := by omega
      subst hu0'
      have HC : Hid (IsCnt 128 v k) := ⟨hk1, HU.out.symm, HMore.out⟩
      clear HMore HU
      go_wp2
      go_loopw [0, 7, 8] (fun out c o wr => ∃ (q : Nat) (L : List Int), q ≤ k ∧ c = .int .i64 ((q : Int) - 1) ∧ L.length + q = L0.length + k ∧ out = .slice (some ⟨g, 0, none⟩) L.length 16 ∧ L ++ tl128 v q = L0 ++ tl128 v k ∧ Row t wr g 16 L ∧ w.grownBy wr (some g)) (fun _ c _ _ => (intOf c + 1).toNat)
      case atStart => exact ⟨k, L0, Nat.le_refl _, by go_num, rfl, rfl, rfl, HR.out, World.grownBy.refl _ _⟩
      case round =>
        clear HR
        obtain ⟨q, L, hq, rfl, hL, rfl, htl, r5, hgr⟩ := hrel
        have HTl : Hid (L ++ tl128 v q = L0 ++ tl128 v k) := htl
        have HR5 : Hid (Row t wr g 16 L) := r5
        have HG : Hid (w.grownBy wr (some g)) := hgr
        have hg3 : g < wr.heap.size := r5.lt
        clear htl r5 hgr
        cases q with
        | zero =>
          have e0 : ((0 : Nat) : Int) - 1 = -1 := by omega
          rw [e0]
          clear e0
          have hLe : L = L0 ++ tl128 v k := by have := HTl.out; simpa [tl128] using this
          have HLe : Hid (L = L0 ++ tl128 v k) := hLe
          have hLl : L.length = L0.length + k := by omega
          rw [hLl]
          clear hLe hLl
          go_wp2
          go_ret
          exact ⟨k, HC.out, rfl, by rw [← HLe.out]; exact HR5.out, HG.out⟩
        | succ q =>
          have e0 : ((q + 1 : Nat) : Int) - 1 = (q : Int) := by omega
          rw [e0]
          clear e0
          have HN2 : Hid (∀ x o, Row t ((wr.setCell ⟨g, L.length, none⟩ (.int .u8 x)).alloc o) g 16 (L ++ [x]) ∧ w.grownBy ((wr.setCell ⟨g, L.length, none⟩ (.int .u8 x)).alloc o) (some g)) := fun x o => HR5.out.more HG.out x o (by omega)
          by_cases hq0 : q = 0
          · subst hq0
            go_wp2_with (at_builtin; refine wpList_append_arr _ rfl _ _ 23 rfl 5 i0 Try.underlying23 hi hz1 t g 16 L L.length rfl rfl (HR5.out.grown (grownBy_alloc' _ _ none) (by simp)) wr.heap.size 1 (bits .and .u8 ((v : Int) % 256) 127) rfl (by simp) (by omega) ?_)
            go_roundw
            case rel =>
              obtain ⟨q1, q2⟩ := HN2.out (bits .and .u8 ((v : Int) % 256) 127) (.cells #[.int .u8 (bits .and .u8 ((v : Int) % 256) 127)] 5)
              refine ⟨0, L ++ [bits .and .u8 ((v : Int) % 256) 127], by omega, by go_num, by simp; omega, by simp; omega, ?_, q1, q2⟩
              rw [← HTl.out, digit_low]; simp [tl128]
            case measure => simp [intOf]
          · have hq1 : 0 < q := by omega
            clear hq0
            go_wp2_with (at_builtin; refine wpList_append_arr _ rfl _ _ 23 rfl 5 i0 Try.underlying23 hi hz1 t g 16 L L.length rfl rfl (HR5.out.grown (grownBy_alloc' _ _ none) (by simp)) wr.heap.size 1 (bits .or .u8 (bits .and .u8 ((v : Int) / 2 ^ (7 * q) % 256) 127) 128) rfl (by simp) (by omega) ?_)
            go_roundw
            case rel =>
              obtain ⟨q1, q2⟩ := HN2.out (bits .or .u8 (bits .and .u8 ((v : Int) / 2 ^ (7 * q) % 256) 127) 128) (.cells #[.int .u8 (bits .or .u8 (bits .and .u8 ((v : Int) / 2 ^ (7 * q) % 256) 127) 128)] 5)
              refine ⟨q, L ++ [bits .or .u8 (bits .and .u8 ((v : Int) / 2 ^ (7 * q) % 256) 127) 128], by omega, by go_num, by simp; omega, by simp, ?_, q1, q2⟩
              rw [← HTl.out, digit_high]; simp [tl128, show ¬ q = 0 by omega]
            case measure => simp [intOf]
end Go.Proofs.Qxb6604565a
