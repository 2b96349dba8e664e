import Derived.Test.Qxb6604485aAsc
namespace Go.Proofs.Qxb6604485a
open Go.RowKit
set_option linter.unusedVariables false

/-- of each place on the way up: the setting nearest from there -/
def suff (d : Int) : List (Option Int) → List Int
  | [] => []
  | x :: r => firstD d (x :: r) :: suff d r
theorem suff_length (d : Int) (l : List (Option Int)) : (suff d l).length = l.length := by
  induction l with
  | nil => rfl
  | cons x r ih => simp [suff, ih]
/-- the reclaim minimums: the first alone under the queue method -/
def recls (q : Bool) (d : Int) (l : List (Option Int)) : List Int := if q then (suff d l).take 1 else suff d l
theorem recls_length (q : Bool) (d : Int) (l : List (Option Int)) : (recls q d l).length ≤ l.length := by
  unfold recls
  split
  · simp [suff_length]; omega
  · simp [suff_length]
def isQ (m : ByteArray) : Bool := m.toList == [113, 117, 101, 117, 101]

theorem ownsRow_below {w w' : World} {base : Nat} {e : TypeId} {size : Nat} {v : Value} {n : Nat} {xs : List Value} (h : w.ownsRow base e size v n xs) (hb : Below w.heap.size w w') : w'.ownsRow base e size v n xs := by
  obtain ⟨h1, h2⟩ := h
  refine ⟨h1, ?_⟩
  rcases h2 with h2 | ⟨g, cap, cur, hv, hg, hh, r⟩
  · exact Or.inl h2
  · exact Or.inr ⟨g, cap, cur, hv, hg, by rw [hb.block g (Array.getElem?_eq_some_iff.1 hh).1]; exact hh, r⟩
theorem Try.info49z : (Try.prog.info? 49).map (fun i => (i.zero, i.size, i.bytes)) = some (some (.int .i64 0), 1, 8) := by kernel_rfl

/-- ascending over a slice of the call's own -/
theorem asc_own (base : Nat) (w : World) (v : Value) (xs : List Int) (h0 : 0 < xs.length) (hl : xs.length ≤ 1048576) (hown : w.ownsRow base 49 1 v xs.length (xs.map (Value.int .i64))) :
    Calls Try.prog 39 #[v] w fun e w' => ∃ g cap, e = .returned (.slice (some ⟨g, 0, none⟩) (asc xs).length cap) ∧ base ≤ g ∧ cap ≤ maxLen ∧ Row 49 w' g cap (asc xs) ∧ w.grownBy w' (some g) := by
  rcases hown.2 with ⟨_, h⟩ | ⟨g, cap, cur, rfl, hg, h1, hn, hcap, hs, ht⟩
  · omega
  · refine (ascending_any w g cap xs (Row.own hown) hl hcap).mono ?_
    rintro e w' ⟨rfl, h2, h3⟩
    exact ⟨g, cap, rfl, hg, hcap, h2, h3⟩
theorem below_row {B g : Nat} {w wr w' : World} (hb : Below B w wr) (hB : B ≤ wr.heap.size) (hg : B ≤ g) (h : wr.grownBy w' (some g)) : Below B w w' := hb.grown h hB (fun k hk => by cases hk; exact hg)
theorem below_own {B : Nat} {w wr w' : World} {e : TypeId} {size : Nat} {v : Value} {n : Nat} {xs : List Value} (hb : Below B w wr) (hB : B ≤ wr.heap.size) (hown : wr.ownsRow B e size v n xs) (h : wr.grownBy w' v.ownBlock) : Below B w w' := by
  refine hb.grown h hB fun k hk => ?_
  rcases hown.2 with ⟨rfl, _⟩ | ⟨g, cap, cur, rfl, hg, _⟩
  · simp [Value.ownBlock] at hk
  · simp [Value.ownBlock] at hk; omega
theorem recls_all {q : Bool} {d : Int} {l : List (Option Int)} (h : q = false) : recls q d l = suff d l := by simp [recls, h]
theorem recls_one {q : Bool} {d : Int} {x : Option Int} {r : List (Option Int)} (h : q = true) : recls q d (x :: r) = [firstD d (x :: r)] := by simp [recls, h, suff]

set_option maxHeartbeats 2000000 in
set_option maxRecDepth 100000 in
/-- reclaimMinRuntimes, whatever the method -/
theorem reclaimMins (w : World) (B bs : Nat) (p : Option Addr) (l : List (Option Int × Option Int)) (dp dr : Int) (m : ByteArray) (hB : B ≤ w.heap.size) (hbs : bs < B) (hc : Chain w B p l) (hst : StAt w bs dp dr m) (hl0 : 0 < l.length) (hl : l.length ≤ 1024) :
    Calls Try.prog 40 #[.pointer (some ⟨bs, 0, none⟩), .pointer p] w fun e w' => ∃ g cap, e = .returned (.slice (some ⟨g, 0, none⟩) (asc (recls (isQ m) dr (l.map (·.2)))).length cap) ∧ w.heap.size ≤ g ∧ cap ≤ maxLen ∧ Row 49 w' g cap (asc (recls (isQ m) dr (l.map (·.2)))) ∧ Below w.heap.size w w' := by
  obtain ⟨i0, hi, hz0, hz1, hz2⟩ := info_parts Try.info49z
  have HC : Hid (Chain w B p l) := hc
  have HST : Hid (StAt w bs dp dr m) := hst
  clear hc hst
  go_enter Try.func40, Try.ntmps40
  go_wp2
  go_loopg [5, 6] l.length (fun k out q wr => ∃ p' l' xs, q = .pointer p' ∧ Chain wr B p' l' ∧ k = l'.length ∧ wr.ownsRow w.heap.size 49 1 out xs.length (xs.map (Value.int .i64)) ∧ xs ++ suff dr (l'.map (·.2)) = suff dr (l.map (·.2)) ∧ (isQ m = true → l' = l ∧ xs = []) ∧ xs.length + l'.length = l.length ∧ Below w.heap.size w wr)
  case atStart => exact ⟨p, l, [], rfl, HC.out, rfl, World.ownsRow_nil _ _ _ _, rfl, fun _ => ⟨rfl, rfl⟩, by simp, Below.refl _ _⟩
  case round =>
    clear HC
    obtain ⟨p', l', xs, rfl, hch, hk, hown, hx, hq, hlen, hb⟩ := hrel
    have HK : Hid (gk = l'.length) := hk
    have HX : Hid (xs ++ suff dr (l'.map (·.2)) = suff dr (l.map (·.2))) := hx
    have HQ : Hid (isQ m = true → l' = l ∧ xs = []) := hq
    have HLen : Hid (xs.length + l'.length = l.length) := hlen
    have hst := HST.out.below (hb.mono hB) hbs
    have hxl : xs.length ≤ 1024 := by omega
    have c4 := hst.c4
    have c5 := hst.c5
    clear hk hx hq hlen
    cases l' with
    | nil =>
      obtain rfl : p' = none := hch
      have hqf : isQ m = false := by
        cases hq : isQ m
        · rfl
        · have := (HQ.out hq).1; subst this; simp at hl0
      have hxs : xs = recls (isQ m) dr (l.map (·.2)) := by rw [recls_all hqf, ← HX.out]; simp [suff]
      have hA := asc_own w.heap.size wr u5 xs (by have := HLen.out; simp at this; omega) (by omega) hown
      rw [hxs] at hA
      clear HX HQ HK hqf hxs hown hst c4 c5
      go_wp2_with fail
      refine hA.mono ?_
      clear hA
      rintro e w1 ⟨g, cap, rfl, hg, hcap, hrow, hgr⟩
      go_wp2
      go_ret
      exact ⟨g, cap, rfl, hg, hcap, hrow, below_row hb hb.size hg hgr⟩
    | cons x r =>
      have hF := firstSet_rec wr B p' (x :: r) dr (Nat.le_trans hB hb.size) hch
      obtain ⟨b, bq, pp, rp, nm, par, rfl, h2, h3, h4, h5, h6, h7, h8, h9, h10, h11⟩ := hch
      have HCh : Hid (Chain wr B par r) := h11
      have H5 : Hid (wr.cell? ⟨b, 1, none⟩ = some (.pointer par)) := h5
      clear h4 h5 h6 h7 h8 h9 h10 h11
      have HOwn : Hid (wr.ownsRow w.heap.size 49 1 u5 xs.length (xs.map (Value.int .i64))) := hown
      have HB : Hid (Below w.heap.size w wr) := hb
      have hwz : w.heap.size ≤ wr.heap.size := hb.size
      have HS : Hid (StAt wr bs dp dr m) := hst
      clear hown hb hst
      go_wp2_with fail
      refine hF.mono ?_
      clear hF c4 c5
      rintro e w1 ⟨⟨nm', rfl⟩, hb1⟩
      obtain ⟨v, ev⟩ : ∃ v, Hid (v = firstD dr ((x :: r).map (·.2))) := ⟨_, rfl⟩
      rw [← ev.out]
      have hbs' : bs < wr.heap.size := by omega
      have c5 := (HS.out.below hb1 hbs').c5
      have hfd := field0
      have hown1 := ownsRow_below HOwn.out hb1
      have hz1' : wr.heap.size ≤ w1.heap.size := hb1.size
      go_wp2_with (at_builtin; refine wpList_append_own _ rfl _ _ 46 rfl w.heap.size 49 i0 (.int .i64 0) 1 8 Try.underlying46 hi hz0 hz1 hz2 rfl (by decide) _ _ _ rfl (hown1.alloc _) ⟨w1.heap.size, 0, none⟩ 1 1 [.int .i64 v] rfl rfl ?c1 ?c2 ?c3 ?c4 ?c5 ?_)
      case c1 =>
        intro j u hj
        match j, hj with
        | 0, hj => simp at hj; subst hj; simp [Addr.add]
      case c2 => intro u hu; simp at hu; subst hu; rfl
      case c3 => unfold maxLen; omega
      case c4 => omega
      case c5 => simp; omega
      intro v' w2 hown2 hgr2 _
      have hbw2 : Below w.heap.size wr w2 := below_own ((hb1.mono hwz).alloc (by omega) _) (by simp; omega) (hown1.alloc _) hgr2
      have own3 : w2.ownsRow w.heap.size 49 1 v' (xs ++ [v]).length ((xs ++ [v]).map (Value.int .i64)) := by simpa using hown2
      have c5' : w2.cell? ⟨bs, 5, none⟩ = some (.string m) := (HS.out.below hbw2 (by omega)).c5
      have c1' : w2.cell? ⟨b, 1, none⟩ = some (.pointer par) := (hbw2.cell (p := ⟨b, 1, none⟩) (by show b < _; omega)).trans H5.out
      have hch2 : Hid (Chain w2 B par r) := HCh.out.below (hbw2.mono hB) (Nat.le_refl _)
      have hbW : Hid (Below w.heap.size w w2) := HB.out.trans hbw2
      have hwz2 : Hid (w.heap.size ≤ w2.heap.size) := Nat.le_trans hwz hbw2.size
      have Own3 : Hid (w2.ownsRow w.heap.size 49 1 v' (xs ++ [v]).length ((xs ++ [v]).map (Value.int .i64))) := own3
      clear hown2 hgr2 hown1 hb1 c5 own3 HOwn HB HS hbw2
      cases hq : isQ m with
      | true =>
        obtain ⟨e1, e2⟩ := HQ.out hq
        subst e2
        have hq' : (m.toList == [113, 117, 101, 117, 101]) = true := hq
        have hxs : [v] = recls (isQ m) dr (l.map (·.2)) := by rw [← e1, List.map_cons, recls_one hq, ev.out]; rfl
        have hA := asc_own w.heap.size w2 v' [v] (by simp) (by simp) (by simpa using Own3.out)
        rw [hxs] at hA
        clear hxs hq e1 HQ HX
        go_wp2_with fail
        refine hA.mono ?_
        clear hA
        rintro e w3 ⟨g, cap, rfl, hg, hcap, hrow, hgr⟩
        go_wp2
        go_ret
        exact ⟨g, cap, rfl, hg, hcap, hrow, below_row hbW.out hwz2.out hg hgr⟩
      | false =>
        have hq' : (m.toList == [113, 117, 101, 117, 101]) = false := hq
        go_wp2
        go_roundg r.length
        case measure => rw [HK.out]; simp
        case rel =>
          refine ⟨par, r, xs ++ [v], rfl, hch2.out, rfl, Own3.out, ?_, fun h => ?_, ?_, hbW.out⟩
          · rw [← HX.out, ev.out]; simp [suff]
          · rw [hq] at h; exact absurd h (by simp)
          · have := HLen.out; simp at this ⊢; omega
end Go.Proofs.Qxb6604485a
