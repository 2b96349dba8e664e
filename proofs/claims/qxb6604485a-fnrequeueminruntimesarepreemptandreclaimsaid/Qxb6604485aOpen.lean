import Derived.Test.Qxb6604485aLawA
import Derived.OpenShut
import Derived.ShutString
import Derived.SliceStrings
import Derived.Deep.Grids
namespace Go.Proofs.Qxb6604485a
open Go.ChangeShapes Go.WideShapes Go.ChangeAt Go.RowKit
set_option linter.unusedVariables false

theorem spot_of {w : World} {x : Addr} {v : Value} (h : w.cell? (x.add 0) = some v) : ∃ b off, x = ⟨b, off, none⟩ := by
  have hs : x.spot = none := by
    have := World.cell?_spot h
    simpa [Addr.add] using this
  obtain ⟨b, off, spot⟩ := x
  simp only at hs
  subst hs
  exact ⟨b, off, rfl⟩

section
variable {H : Type} {enc : TypeId × Value → H} {W : World} {a : Option Addr} {len cap : Nat} {d : DataW H} {p : List MemPlace}
theorem strs_of (h : DataW.Trod enc Try.prog W 0 (fun _ => true) true 38 (.slice a len cap) d p) : ∃ ss : List ByteArray, ss.length = len ∧ Strs W a ss := by
  obtain ⟨fuel, hf⟩ := h
  rcases open_strings Try.underlying38 Try.underlying9 (by kernel_rfl) hf with ⟨hcs, _⟩ | ⟨x, l, c, ss, hcs, _, hl, hm, hz, _, hcell, _⟩
  · simp [Value.cells] at hcs
    obtain ⟨rfl, rfl, rfl⟩ := hcs
    exact ⟨[], rfl, fun h => by simp at h⟩
  · simp [Value.cells] at hcs
    obtain ⟨rfl, rfl, rfl⟩ := hcs
    simp only [if_true] at hz
    refine ⟨ss.take len, by simp; omega, fun h => ?_⟩
    have h0 : 0 < len := by simp at h; omega
    obtain ⟨b, off, rfl⟩ := spot_of (hcell 0 (by omega))
    refine ⟨b, off, rfl, fun j hj => ?_⟩
    have hj' : j < len := by simp at hj; omega
    have := hcell j (by omega)
    rw [add_plain] at this
    rw [this]
    simp [hj']
theorem ints_of (h : DataW.Trod enc Try.prog W 0 (fun _ => true) true 22 (.slice a len cap) d p) : ∃ zs : List Int, zs.length = len ∧ SI W a zs := by
  obtain ⟨fuel, hf⟩ := h
  rcases open_ints Try.underlying22 Try.underlying2 (by kernel_rfl) hf with ⟨hcs, _⟩ | ⟨x, l, c, ss, hcs, _, hl, hm, hz, _, hcell, _⟩
  · simp [Value.cells] at hcs
    obtain ⟨rfl, rfl, rfl⟩ := hcs
    exact ⟨[], rfl, fun h => by simp at h⟩
  · simp [Value.cells] at hcs
    obtain ⟨rfl, rfl, rfl⟩ := hcs
    simp only [if_true] at hz
    refine ⟨ss.take len, by simp; omega, fun h => ?_⟩
    have h0 : 0 < len := by simp at h; omega
    obtain ⟨b, off, rfl⟩ := spot_of (hcell 0 (by omega))
    refine ⟨b, off, rfl, fun j hj => ?_⟩
    have hj' : j < len := by simp at hj; omega
    have := hcell j (by omega)
    rw [add_plain] at this
    rw [this]
    simp [hj']
theorem bools_of (h : DataW.Trod enc Try.prog W 0 (fun _ => true) true 39 (.slice a len cap) d p) : ∃ bl : List Bool, bl.length = len ∧ SB W a bl := by
  obtain ⟨fuel, hf⟩ := h
  rcases Go.Deep.open_bools Try.underlying39 Try.underlying4 (by kernel_rfl) hf with ⟨hcs, _⟩ | ⟨x, l, c, B, hcs, _, hl, hm, _, hcell⟩
  · simp [Value.cells] at hcs
    obtain ⟨rfl, rfl, rfl⟩ := hcs
    exact ⟨[], rfl, fun h => by simp at h⟩
  · simp [Value.cells] at hcs
    obtain ⟨rfl, rfl, rfl⟩ := hcs
    refine ⟨(List.range len).map B, by simp, fun h => ?_⟩
    have h0 : 0 < len := by simpa using h
    obtain ⟨b, off, rfl⟩ := spot_of (hcell 0 (by omega))
    refine ⟨b, off, rfl, fun j hj => ?_⟩
    have hj' : j < len := by simpa using hj
    have := hcell j (by omega)
    rw [add_plain] at this
    rw [this]
    simp [hj']
end
end Go.Proofs.Qxb6604485a
