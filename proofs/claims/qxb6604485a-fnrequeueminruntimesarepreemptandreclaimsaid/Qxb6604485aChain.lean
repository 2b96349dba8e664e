import Derived.Test.Qxb6604485aModel
namespace Go.Proofs.Qxb6604485a
open Go.RowKit
set_option linter.unusedVariables false

def ArgS (w : World) (b off : Nat) (ss : List ByteArray) : Prop := ∀ j, j < ss.length → w.cell? ⟨b, off + j, none⟩ = some (.string (ss.getD j ByteArray.empty))
theorem ArgS.below {w w' : World} {B b off : Nat} {ss : List ByteArray} (h : ArgS w b off ss) (hb : Below B w w') (hB : b < B) : ArgS w' b off ss := fun j hj => (hb.cell (p := ⟨b, off + j, none⟩) hB).trans (h j hj)
/-- the settings of the chain's queues -/
def items (n : Nat) (pb : List Bool) (pz : List Int) (rb : List Bool) (rz : List Int) : List (Option Int × Option Int) :=
  (List.range n).map fun i => (if pb.getD i false then some (pz.getD i 0) else none, if rb.getD i false then some (rz.getD i 0) else none)
theorem items_length (n : Nat) (pb : List Bool) (pz : List Int) (rb : List Bool) (rz : List Int) : (items n pb pz rb rz).length = n := by simp [items]
theorem items_fst (n : Nat) (pb : List Bool) (pz : List Int) (rb : List Bool) (rz : List Int) : (items n pb pz rb rz).map (·.1) = opts n pb pz := by simp [items, opts, Function.comp_def]
theorem items_snd (n : Nat) (pb : List Bool) (pz : List Int) (rb : List Bool) (rz : List Int) : (items n pb pz rb rz).map (·.2) = opts n rb rz := by simp [items, opts, Function.comp_def]
theorem items_drop (n : Nat) (pb : List Bool) (pz : List Int) (rb : List Bool) (rz : List Int) (j : Nat) (hj : j < n) :
    (items n pb pz rb rz).drop j = (if pb.getD j false then some (pz.getD j 0) else none, if rb.getD j false then some (rz.getD j 0) else none) :: (items n pb pz rb rz).drop (j + 1) := by
  rw [List.drop_eq_getElem_cons (by rw [items_length]; exact hj)]
  simp [items]
theorem items_drop_all (n : Nat) (pb : List Bool) (pz : List Int) (rb : List Bool) (rz : List Int) : (items n pb pz rb rz).drop n = [] := by
  rw [List.drop_eq_nil_iff, items_length]; exact Nat.le_refl _

/-- one queue more at the chain's foot -/
theorem chain_cons {wr W : World} {p : Option Addr} {l : List (Option Int × Option Int)} (hc : Chain wr wr.heap.size p l) (hb : Below wr.heap.size wr W) (b bq : Nat) (pp rp : Option Addr) (nm : ByteArray) (x1 x2 : Option Int)
    (h4 : W.cell? ⟨b, 0, none⟩ = some (.pointer (some ⟨bq, 0, none⟩))) (h5 : W.cell? ⟨b, 1, none⟩ = some (.pointer p)) (h6 : W.cell? ⟨bq, 0, none⟩ = some (.string nm)) (h7 : W.cell? ⟨bq, 4, none⟩ = some (.pointer pp)) (h8 : W.cell? ⟨bq, 5, none⟩ = some (.pointer rp))
    (h9 : DurAt W W.heap.size pp x1) (h10 : DurAt W W.heap.size rp x2) : Chain W W.heap.size (some ⟨b, 0, none⟩) ((x1, x2) :: l) :=
  ⟨b, bq, pp, rp, nm, p, rfl, lt_of_cell h4, lt_of_cell h6, h4, h5, h6, h7, h8, h9, h10, hc.below hb hb.size⟩
theorem durAt_mk {W : World} {b : Nat} {x : Int} (h : W.cell? ⟨b, 0, none⟩ = some (.int .i64 x)) : DurAt W W.heap.size (some ⟨b, 0, none⟩) (some x) := ⟨b, lt_of_cell h, rfl, h⟩

def sqObj (nm pn : ByteArray) (pp rp : Option Addr) : Obj := .cells #[.string nm, .string pn, .int .i64 0, .pointer none, .pointer pp, .pointer rp] 65
def durObj (z : Int) : Obj := .cells #[.int .i64 z] 49
theorem new0 (w : World) (o1 : Obj) : (w.alloc o1).heap[w.heap.size]? = some o1 := heap_alloc_new w o1
theorem new1 (w : World) (o1 o2 : Obj) : ((w.alloc o1).alloc o2).heap[w.heap.size + 1]? = some o2 := by
  have := heap_alloc_new (w.alloc o1) o2
  simpa using this
theorem new2 (w : World) (o1 o2 o3 : Obj) : (((w.alloc o1).alloc o2).alloc o3).heap[w.heap.size + 2]? = some o3 := by
  have := heap_alloc_new ((w.alloc o1).alloc o2) o3
  simpa using this
theorem new3 (w : World) (o1 o2 o3 o4 : Obj) : ((((w.alloc o1).alloc o2).alloc o3).alloc o4).heap[w.heap.size + 3]? = some o4 := by
  have := heap_alloc_new (((w.alloc o1).alloc o2).alloc o3) o4
  simpa using this
theorem step00 {wr : World} {p : Option Addr} {l : List (Option Int × Option Int)} (hc : Chain wr wr.heap.size p l) (nm pn : ByteArray) :
    Chain ((wr.alloc (sqObj nm pn none none)).alloc (queueObj (some ⟨wr.heap.size, 0, none⟩) p)) ((wr.alloc (sqObj nm pn none none)).alloc (queueObj (some ⟨wr.heap.size, 0, none⟩) p)).heap.size (some ⟨wr.heap.size + 1, 0, none⟩) ((none, none) :: l) := by
  have hb : Below wr.heap.size wr ((wr.alloc (sqObj nm pn none none)).alloc (queueObj (some ⟨wr.heap.size, 0, none⟩) p)) := ((Below.refl _ _).alloc (Nat.le_refl _) _).alloc (by simp) _
  have q0 : ((wr.alloc (sqObj nm pn none none)).alloc (queueObj (some ⟨wr.heap.size, 0, none⟩) p)).heap[wr.heap.size]? = some (sqObj nm pn none none) := by rw [Below.heap_alloc _ _ _ (by simp)]; exact new0 _ _
  have q1 := new1 wr (sqObj nm pn none none) (queueObj (some ⟨wr.heap.size, 0, none⟩) p)
  exact chain_cons hc hb (wr.heap.size + 1) wr.heap.size none none nm none none (cell_of q1 rfl) (cell_of q1 rfl) (cell_of q0 rfl) (cell_of q0 rfl) (cell_of q0 rfl) rfl rfl
theorem step10 {wr : World} {p : Option Addr} {l : List (Option Int × Option Int)} (hc : Chain wr wr.heap.size p l) (nm pn : ByteArray) (z : Int) :
    Chain (((wr.alloc (sqObj nm pn (some ⟨wr.heap.size + 1, 0, none⟩) none)).alloc (durObj z)).alloc (queueObj (some ⟨wr.heap.size, 0, none⟩) p)) (((wr.alloc (sqObj nm pn (some ⟨wr.heap.size + 1, 0, none⟩) none)).alloc (durObj z)).alloc (queueObj (some ⟨wr.heap.size, 0, none⟩) p)).heap.size (some ⟨wr.heap.size + 2, 0, none⟩) ((some z, none) :: l) := by
  have hb : Below wr.heap.size wr (((wr.alloc (sqObj nm pn (some ⟨wr.heap.size + 1, 0, none⟩) none)).alloc (durObj z)).alloc (queueObj (some ⟨wr.heap.size, 0, none⟩) p)) := (((Below.refl _ _).alloc (Nat.le_refl _) _).alloc (by simp) _).alloc (by simp; omega) _
  have q0 : (((wr.alloc (sqObj nm pn (some ⟨wr.heap.size + 1, 0, none⟩) none)).alloc (durObj z)).alloc (queueObj (some ⟨wr.heap.size, 0, none⟩) p)).heap[wr.heap.size]? = some (sqObj nm pn (some ⟨wr.heap.size + 1, 0, none⟩) none) := by rw [Below.heap_alloc _ _ _ (by simp; omega), Below.heap_alloc _ _ _ (by simp)]; exact new0 _ _
  have q1 : (((wr.alloc (sqObj nm pn (some ⟨wr.heap.size + 1, 0, none⟩) none)).alloc (durObj z)).alloc (queueObj (some ⟨wr.heap.size, 0, none⟩) p)).heap[wr.heap.size + 1]? = some (durObj z) := by rw [Below.heap_alloc _ _ _ (by simp)]; exact new1 _ _ _
  have q2 := new2 wr (sqObj nm pn (some ⟨wr.heap.size + 1, 0, none⟩) none) (durObj z) (queueObj (some ⟨wr.heap.size, 0, none⟩) p)
  exact chain_cons hc hb (wr.heap.size + 2) wr.heap.size _ none nm (some z) none (cell_of q2 rfl) (cell_of q2 rfl) (cell_of q0 rfl) (cell_of q0 rfl) (cell_of q0 rfl) (durAt_mk (cell_of q1 rfl)) rfl
theorem step01 {wr : World} {p : Option Addr} {l : List (Option Int × Option Int)} (hc : Chain wr wr.heap.size p l) (nm pn : ByteArray) (z : Int) :
    Chain (((wr.alloc (sqObj nm pn none (some ⟨wr.heap.size + 1, 0, none⟩))).alloc (durObj z)).alloc (queueObj (some ⟨wr.heap.size, 0, none⟩) p)) (((wr.alloc (sqObj nm pn none (some ⟨wr.heap.size + 1, 0, none⟩))).alloc (durObj z)).alloc (queueObj (some ⟨wr.heap.size, 0, none⟩) p)).heap.size (some ⟨wr.heap.size + 2, 0, none⟩) ((none, some z) :: l) := by
  have hb : Below wr.heap.size wr (((wr.alloc (sqObj nm pn none (some ⟨wr.heap.size + 1, 0, none⟩))).alloc (durObj z)).alloc (queueObj (some ⟨wr.heap.size, 0, none⟩) p)) := (((Below.refl _ _).alloc (Nat.le_refl _) _).alloc (by simp) _).alloc (by simp; omega) _
  have q0 : (((wr.alloc (sqObj nm pn none (some ⟨wr.heap.size + 1, 0, none⟩))).alloc (durObj z)).alloc (queueObj (some ⟨wr.heap.size, 0, none⟩) p)).heap[wr.heap.size]? = some (sqObj nm pn none (some ⟨wr.heap.size + 1, 0, none⟩)) := by rw [Below.heap_alloc _ _ _ (by simp; omega), Below.heap_alloc _ _ _ (by simp)]; exact new0 _ _
  have q1 : (((wr.alloc (sqObj nm pn none (some ⟨wr.heap.size + 1, 0, none⟩))).alloc (durObj z)).alloc (queueObj (some ⟨wr.heap.size, 0, none⟩) p)).heap[wr.heap.size + 1]? = some (durObj z) := by rw [Below.heap_alloc _ _ _ (by simp)]; exact new1 _ _ _
  have q2 := new2 wr (sqObj nm pn none (some ⟨wr.heap.size + 1, 0, none⟩)) (durObj z) (queueObj (some ⟨wr.heap.size, 0, none⟩) p)
  exact chain_cons hc hb (wr.heap.size + 2) wr.heap.size none _ nm none (some z) (cell_of q2 rfl) (cell_of q2 rfl) (cell_of q0 rfl) (cell_of q0 rfl) (cell_of q0 rfl) rfl (durAt_mk (cell_of q1 rfl))
theorem step11 {wr : World} {p : Option Addr} {l : List (Option Int × Option Int)} (hc : Chain wr wr.heap.size p l) (nm pn : ByteArray) (z y : Int) :
    Chain ((((wr.alloc (sqObj nm pn (some ⟨wr.heap.size + 1, 0, none⟩) (some ⟨wr.heap.size + 2, 0, none⟩))).alloc (durObj z)).alloc (durObj y)).alloc (queueObj (some ⟨wr.heap.size, 0, none⟩) p)) ((((wr.alloc (sqObj nm pn (some ⟨wr.heap.size + 1, 0, none⟩) (some ⟨wr.heap.size + 2, 0, none⟩))).alloc (durObj z)).alloc (durObj y)).alloc (queueObj (some ⟨wr.heap.size, 0, none⟩) p)).heap.size (some ⟨wr.heap.size + 3, 0, none⟩) ((some z, some y) :: l) := by
  have hb : Below wr.heap.size wr ((((wr.alloc (sqObj nm pn (some ⟨wr.heap.size + 1, 0, none⟩) (some ⟨wr.heap.size + 2, 0, none⟩))).alloc (durObj z)).alloc (durObj y)).alloc (queueObj (some ⟨wr.heap.size, 0, none⟩) p)) := ((((Below.refl _ _).alloc (Nat.le_refl _) _).alloc (by simp) _).alloc (by simp; omega) _).alloc (by simp; omega) _
  have q0 : ((((wr.alloc (sqObj nm pn (some ⟨wr.heap.size + 1, 0, none⟩) (some ⟨wr.heap.size + 2, 0, none⟩))).alloc (durObj z)).alloc (durObj y)).alloc (queueObj (some ⟨wr.heap.size, 0, none⟩) p)).heap[wr.heap.size]? = some (sqObj nm pn (some ⟨wr.heap.size + 1, 0, none⟩) (some ⟨wr.heap.size + 2, 0, none⟩)) := by rw [Below.heap_alloc _ _ _ (by simp; omega), Below.heap_alloc _ _ _ (by simp; omega), Below.heap_alloc _ _ _ (by simp)]; exact new0 _ _
  have q1 : ((((wr.alloc (sqObj nm pn (some ⟨wr.heap.size + 1, 0, none⟩) (some ⟨wr.heap.size + 2, 0, none⟩))).alloc (durObj z)).alloc (durObj y)).alloc (queueObj (some ⟨wr.heap.size, 0, none⟩) p)).heap[wr.heap.size + 1]? = some (durObj z) := by rw [Below.heap_alloc _ _ _ (by simp), Below.heap_alloc _ _ _ (by simp)]; exact new1 _ _ _
  have q2 : ((((wr.alloc (sqObj nm pn (some ⟨wr.heap.size + 1, 0, none⟩) (some ⟨wr.heap.size + 2, 0, none⟩))).alloc (durObj z)).alloc (durObj y)).alloc (queueObj (some ⟨wr.heap.size, 0, none⟩) p)).heap[wr.heap.size + 2]? = some (durObj y) := by rw [Below.heap_alloc _ _ _ (by simp)]; exact new2 _ _ _ _
  have q3 := new3 wr (sqObj nm pn (some ⟨wr.heap.size + 1, 0, none⟩) (some ⟨wr.heap.size + 2, 0, none⟩)) (durObj z) (durObj y) (queueObj (some ⟨wr.heap.size, 0, none⟩) p)
  exact chain_cons hc hb (wr.heap.size + 3) wr.heap.size _ _ nm (some z) (some y) (cell_of q3 rfl) (cell_of q3 rfl) (cell_of q0 rfl) (cell_of q0 rfl) (cell_of q0 rfl) (durAt_mk (cell_of q1 rfl)) (durAt_mk (cell_of q2 rfl))

set_option maxHeartbeats 4000000 in
set_option maxRecDepth 100000 in
/-- zzQueueChain -/
theorem chain_any (w : World) (n b0 o0 c0 b1 o1 c1 b2 o2 c2 b3 o3 c3 b4 o4 c4 : Nat) (ss : List ByteArray) (pb : List Bool) (pz : List Int) (rb : List Bool) (rz : List Int)
    (e0 : ss.length = n) (e1 : pb.length = n) (e2 : pz.length = n) (e3 : rb.length = n) (e4 : rz.length = n) (h0 : ArgS w b0 o0 ss) (h1 : ArgB w b1 o1 pb) (h2 : ArgI w b2 o2 pz) (h3 : ArgB w b3 o3 rb) (h4 : ArgI w b4 o4 rz)
    (l0 : b0 < w.heap.size) (l1 : b1 < w.heap.size) (l2 : b2 < w.heap.size) (l3 : b3 < w.heap.size) (l4 : b4 < w.heap.size) (hn : n ≤ 1024) :
    Calls Try.prog 23 #[.slice (some ⟨b0, o0, none⟩) n c0, .slice (some ⟨b1, o1, none⟩) n c1, .slice (some ⟨b2, o2, none⟩) n c2, .slice (some ⟨b3, o3, none⟩) n c3, .slice (some ⟨b4, o4, none⟩) n c4] w fun e w' =>
      ∃ p, e = .returned (.pointer p) ∧ Chain w' w'.heap.size p (items n pb pz rb rz) ∧ Below w.heap.size w w' := by
  have H0 : Hid (∀ wr, Below w.heap.size w wr → ArgS wr b0 o0 ss) := fun wr hb => h0.below hb l0
  have H1 : Hid (∀ wr, Below w.heap.size w wr → ArgB wr b1 o1 pb) := fun wr hb => h1.below hb l1
  have H2 : Hid (∀ wr, Below w.heap.size w wr → ArgI wr b2 o2 pz) := fun wr hb => h2.below hb l2
  have H3 : Hid (∀ wr, Below w.heap.size w wr → ArgB wr b3 o3 rb) := fun wr hb => h3.below hb l3
  have H4 : Hid (∀ wr, Below w.heap.size w wr → ArgI wr b4 o4 rz) := fun wr hb => h4.below hb l4
  have E0 : Hid (ss.length = n) := e0
  have E1 : Hid (pb.length = n) := e1
  have E2 : Hid (pz.length = n) := e2
  have E3 : Hid (rb.length = n) := e3
  have E4 : Hid (rz.length = n) := e4
  clear e0 e1 e2 e3 e4 h0 h1 h2 h3 h4
  go_enter Try.func23, Try.ntmps23
  go_wp2
  go_loopw [11, 12] (fun q v wr => ∃ (i : Int) (p : Option Addr), -1 ≤ i ∧ i < n ∧ v = .int .i64 i ∧ q = .pointer p ∧ Chain wr wr.heap.size p ((items n pb pz rb rz).drop (i + 1).toNat) ∧ Below w.heap.size w wr) (fun _ v _ => (intOf v + 1).toNat)
  case atStart => exact ⟨(n : Int) - 1, none, by omega, by omega, rfl, rfl, by rw [show ((n : Int) - 1 + 1).toNat = n by omega, items_drop_all]; rfl, Below.refl _ _⟩
  case round =>
    obtain ⟨i, p, hi1, hi2, rfl, rfl, hch, hb⟩ := hrel
    by_cases hi0 : i < 0
    · have hi : i = -1 := by omega
      subst hi
      go_wp2
      go_ret
      exact ⟨p, rfl, by simpa using hch, hb⟩
    · obtain ⟨k, rfl⟩ : ∃ k : Nat, i = k := ⟨i.toNat, by omega⟩
      have hk : k < n := by omega
      have g0 := H0.out wr hb k (by rw [E0.out]; exact hk)
      have g0' : k + 1 < n → wr.cell? ⟨b0, o0 + (k + 1), none⟩ = some (.string (ss.getD (k + 1) ByteArray.empty)) := fun h => H0.out wr hb (k + 1) (by rw [E0.out]; exact h)
      have g1 := H1.out wr hb k (by rw [E1.out]; exact hk)
      have g2 := H2.out wr hb k (by rw [E2.out]; exact hk)
      have g3 := H3.out wr hb k (by rw [E3.out]; exact hk)
      have g4 := H4.out wr hb k (by rw [E4.out]; exact hk)
      have HD := items_drop n pb pz rb rz k hk
      rw [show ((k : Int) + 1).toNat = k + 1 by omega] at hch
      obtain ⟨s1, es1⟩ : ∃ s, s = pb.getD k false := ⟨_, rfl⟩
      obtain ⟨s2, es2⟩ : ∃ s, s = rb.getD k false := ⟨_, rfl⟩
      obtain ⟨z1, ez1⟩ : ∃ s, s = pz.getD k 0 := ⟨_, rfl⟩
      obtain ⟨z2, ez2⟩ : ∃ s, s = rz.getD k 0 := ⟨_, rfl⟩
      obtain ⟨nm, enm⟩ : ∃ s, s = ss.getD k ByteArray.empty := ⟨_, rfl⟩
      obtain ⟨pn, epn⟩ : ∃ s, s = ss.getD (k + 1) ByteArray.empty := ⟨_, rfl⟩
      rw [← es1] at g1 HD
      rw [← es2] at g3 HD
      rw [← ez1] at g2 HD
      rw [← ez2] at g4 HD
      rw [← enm] at g0
      rw [← epn] at g0'
      clear es1 es2 ez1 ez2 enm epn
      have HDD : Hid ((items n pb pz rb rz).drop k = (if s1 then some z1 else none, if s2 then some z2 else none) :: (items n pb pz rb rz).drop (k + 1)) := HD
      have HCh : Hid (Chain wr wr.heap.size p ((items n pb pz rb rz).drop (k + 1))) := hch
      have HBe : Hid (Below w.heap.size w wr) := hb
      have hwr : w.heap.size ≤ wr.heap.size := hb.size
      have hbb0 : b0 < wr.heap.size := by omega
      have hbb1 : b1 < wr.heap.size := by omega
      have hbb2 : b2 < wr.heap.size := by omega
      have hbb3 : b3 < wr.heap.size := by omega
      have hbb4 : b4 < wr.heap.size := by omega
      clear HD hch hb
      by_cases hk1 : k + 1 < n
      · have g0'' := g0' hk1
        clear g0'
        cases s1 with
        | false =>
          cases s2 with
          | false =>
            go_wp2_with (first | (go_at_call 33; refine (dur_new _ _).mono ?_; rintro e w' ⟨rfl, rfl⟩) | (go_at_call 34; refine (queue_new _ _ _).mono ?_; rintro e w' ⟨rfl, rfl⟩))
            go_roundw
            case rel =>
              refine ⟨(k : Int) - 1, _, by omega, by omega, rfl, rfl, ?_, ((HBe.out.alloc hwr _).alloc (by simp; omega) _)⟩
              rw [show ((k : Int) - 1 + 1).toNat = k by omega, HDD.out]
              exact step00 HCh.out nm pn
            case measure => simp [intOf]
          | true =>
            go_wp2_with (first | (go_at_call 33; refine (dur_new _ _).mono ?_; rintro e w' ⟨rfl, rfl⟩) | (go_at_call 34; refine (queue_new _ _ _).mono ?_; rintro e w' ⟨rfl, rfl⟩))
            go_roundw
            case rel =>
              refine ⟨(k : Int) - 1, _, by omega, by omega, rfl, rfl, ?_, (((HBe.out.alloc hwr _).alloc (by simp; omega) _).alloc (by simp; omega) _)⟩
              rw [show ((k : Int) - 1 + 1).toNat = k by omega, HDD.out]
              exact step01 HCh.out nm pn z2
            case measure => simp [intOf]
        | true =>
          cases s2 with
          | false =>
            go_wp2_with (first | (go_at_call 33; refine (dur_new _ _).mono ?_; rintro e w' ⟨rfl, rfl⟩) | (go_at_call 34; refine (queue_new _ _ _).mono ?_; rintro e w' ⟨rfl, rfl⟩))
            go_roundw
            case rel =>
              refine ⟨(k : Int) - 1, _, by omega, by omega, rfl, rfl, ?_, (((HBe.out.alloc hwr _).alloc (by simp; omega) _).alloc (by simp; omega) _)⟩
              rw [show ((k : Int) - 1 + 1).toNat = k by omega, HDD.out]
              exact step10 HCh.out nm pn z1
            case measure => simp [intOf]
          | true =>
            go_wp2_with (first | (go_at_call 33; refine (dur_new _ _).mono ?_; rintro e w' ⟨rfl, rfl⟩) | (go_at_call 34; refine (queue_new _ _ _).mono ?_; rintro e w' ⟨rfl, rfl⟩))
            go_roundw
            case rel =>
              refine ⟨(k : Int) - 1, _, by omega, by omega, rfl, rfl, ?_, ((((HBe.out.alloc hwr _).alloc (by simp; omega) _).alloc (by simp; omega) _).alloc (by simp; omega) _)⟩
              rw [show ((k : Int) - 1 + 1).toNat = k by omega, HDD.out]
              exact step11 HCh.out nm pn z1 z2
            case measure => simp [intOf]
      · clear g0'
        cases s1 with
        | false =>
          cases s2 with
          | false =>
            go_wp2_with (first | (go_at_call 33; refine (dur_new _ _).mono ?_; rintro e w' ⟨rfl, rfl⟩) | (go_at_call 34; refine (queue_new _ _ _).mono ?_; rintro e w' ⟨rfl, rfl⟩))
            go_roundw
            case rel =>
              refine ⟨(k : Int) - 1, _, by omega, by omega, rfl, rfl, ?_, ((HBe.out.alloc hwr _).alloc (by simp; omega) _)⟩
              rw [show ((k : Int) - 1 + 1).toNat = k by omega, HDD.out]
              exact step00 HCh.out nm ⟨#[]⟩
            case measure => simp [intOf]
          | true =>
            go_wp2_with (first | (go_at_call 33; refine (dur_new _ _).mono ?_; rintro e w' ⟨rfl, rfl⟩) | (go_at_call 34; refine (queue_new _ _ _).mono ?_; rintro e w' ⟨rfl, rfl⟩))
            go_roundw
            case rel =>
              refine ⟨(k : Int) - 1, _, by omega, by omega, rfl, rfl, ?_, (((HBe.out.alloc hwr _).alloc (by simp; omega) _).alloc (by simp; omega) _)⟩
              rw [show ((k : Int) - 1 + 1).toNat = k by omega, HDD.out]
              exact step01 HCh.out nm ⟨#[]⟩ z2
            case measure => simp [intOf]
        | true =>
          cases s2 with
          | false =>
            go_wp2_with (first | (go_at_call 33; refine (dur_new _ _).mono ?_; rintro e w' ⟨rfl, rfl⟩) | (go_at_call 34; refine (queue_new _ _ _).mono ?_; rintro e w' ⟨rfl, rfl⟩))
            go_roundw
            case rel =>
              refine ⟨(k : Int) - 1, _, by omega, by omega, rfl, rfl, ?_, (((HBe.out.alloc hwr _).alloc (by simp; omega) _).alloc (by simp; omega) _)⟩
              rw [show ((k : Int) - 1 + 1).toNat = k by omega, HDD.out]
              exact step10 HCh.out nm ⟨#[]⟩ z1
            case measure => simp [intOf]
          | true =>
            go_wp2_with (first | (go_at_call 33; refine (dur_new _ _).mono ?_; rintro e w' ⟨rfl, rfl⟩) | (go_at_call 34; refine (queue_new _ _ _).mono ?_; rintro e w' ⟨rfl, rfl⟩))
            go_roundw
            case rel =>
              refine ⟨(k : Int) - 1, _, by omega, by omega, rfl, rfl, ?_, ((((HBe.out.alloc hwr _).alloc (by simp; omega) _).alloc (by simp; omega) _).alloc (by simp; omega) _)⟩
              rw [show ((k : Int) - 1 + 1).toNat = k by omega, HDD.out]
              exact step11 HCh.out nm ⟨#[]⟩ z1 z2
            case measure => simp [intOf]
end Go.Proofs.Qxb6604485a
