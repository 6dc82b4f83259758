import Derived.Test.Qxb6616485aDoorWalkUp
import Derived.ProofKit
import Derived.LaidMore
import Derived.OpenShut
import Derived.ShutString
import Derived.ChangeOld
import Derived.Below
import Derived.Stop.Joined
import Derived.SliceStrings
import Derived.Deep.Grids
namespace Go.Proofs.Qxb6616485aDoor.Pf
open Go.ChangeShapes Go.WideShapes Go.ChangeAt Go.RowKit Go.Deep Wk
open Go.ChangeMaps (open_string shut_string)

theorem own : ownKnob Tryd.prog.godebug = none := by kernel_rfl
theorem laidOut : laidOutB Tryd.prog = true := by kernel_rfl
theorem cells9 : Tryd.prog.cellsOf 9 = 1 := by kernel_rfl
theorem cells4 : Tryd.prog.cellsOf 4 = 1 := by kernel_rfl
theorem cells2 : Tryd.prog.cellsOf 2 = 1 := by kernel_rfl

section
variable {H : Type} {enc : TypeId × Value → H} {W : World}

theorem spot_none {a : Addr} {v : Value} (h : W.cell? (a.add 0) = some v) : ∃ b off, a = ⟨b, off, none⟩ ∧ ∀ j, a.add j = ⟨b, off + j, none⟩ := by
  obtain ⟨b, off, spot⟩ := a
  have hspot : spot = none := by simpa [Addr.add] using World.cell?_spot h
  subst hspot
  exact ⟨b, off, rfl, fun j => by by_cases hj : j = 0 <;> simp [Addr.add, hj]⟩

/-- A slice of strings that came in. -/
theorem strs_in {a : Option Addr} {n c : Nat} {d : DataW H} {p : List MemPlace} (h : DataW.Trod enc Tryd.prog W 0 (fun _ => true) true 22 (.slice a n c) d p) :
    ∃ S, Strs W a n S ∧ (a = none → n = 0 ∧ c = 0) ∧ n ≤ 9223372036854775807 := by
  obtain ⟨fuel, hf⟩ := h
  rcases open_strings Tryd.underlying22 Tryd.underlying9 cells9 hf with ⟨hcs, _⟩ | ⟨x, l, cp, ss, hcs, _, hl, hm, hz, _, hcell, hws⟩
  · simp [Value.cells] at hcs
    obtain ⟨rfl, rfl, rfl⟩ := hcs
    exact ⟨fun _ => ByteArray.empty, fun i hi => by omega, fun _ => ⟨rfl, rfl⟩, by omega⟩
  · simp [Value.cells] at hcs
    obtain ⟨rfl, rfl, rfl⟩ := hcs
    unfold maxLen at hm
    have hz' : ss.length = c := by simpa using hz
    refine ⟨fun i => ss.getD i ByteArray.empty, fun i hi => ?_, (fun h => nomatch h), by omega⟩
    have hc := hcell i (by omega)
    obtain ⟨b, off, rfl, hadd⟩ := spot_none (hcell 0 (by omega))
    rw [hadd] at hc
    refine ⟨b, off, rfl, hc, ?_⟩
    have hi' : i < ss.length := by omega
    have := hws (ss.getD i ByteArray.empty) (by rw [List.getD_eq_getElem?_getD, List.getElem?_eq_getElem hi']; exact List.getElem_mem hi')
    unfold maxLen at this
    exact this
/-- A slice of bools. -/
theorem bools_in {a : Option Addr} {n c : Nat} {d : DataW H} {p : List MemPlace} (h : DataW.Trod enc Tryd.prog W 0 (fun _ => true) true 23 (.slice a n c) d p) :
    ∃ T, Bools W a n T ∧ n ≤ 9223372036854775807 := by
  obtain ⟨fuel, hf⟩ := h
  rcases open_bools Tryd.underlying23 Tryd.underlying4 cells4 hf with ⟨hcs, _⟩ | ⟨x, l, cp, zs, hcs, _, hl, hm, _, hcell⟩
  · simp [Value.cells] at hcs
    obtain ⟨rfl, rfl, rfl⟩ := hcs
    exact ⟨fun _ => false, fun i hi => by omega, by omega⟩
  · simp [Value.cells] at hcs
    obtain ⟨rfl, rfl, rfl⟩ := hcs
    unfold maxLen at hm
    refine ⟨zs, fun i hi => ?_, by omega⟩
    have hc := hcell i (by omega)
    obtain ⟨b, off, rfl, hadd⟩ := spot_none (hcell 0 (by omega))
    rw [hadd] at hc
    exact ⟨b, off, rfl, hc⟩
/-- A slice of int64. -/
theorem ints_in {a : Option Addr} {n c : Nat} {d : DataW H} {p : List MemPlace} (h : DataW.Trod enc Tryd.prog W 0 (fun _ => true) true 24 (.slice a n c) d p) :
    ∃ N, Ints W a n N ∧ n ≤ 9223372036854775807 := by
  obtain ⟨fuel, hf⟩ := h
  rcases open_ints Tryd.underlying24 Tryd.underlying2 cells2 hf with ⟨hcs, _⟩ | ⟨x, l, cp, zs, hcs, _, hl, hm, hz, _, hcell, hwz⟩
  · simp [Value.cells] at hcs
    obtain ⟨rfl, rfl, rfl⟩ := hcs
    exact ⟨fun _ => 0, fun i hi => by omega, by omega⟩
  · simp [Value.cells] at hcs
    obtain ⟨rfl, rfl, rfl⟩ := hcs
    unfold maxLen at hm
    have hz' : zs.length = c := by simpa using hz
    refine ⟨fun i => zs.getD i 0, fun i hi => ?_, by omega⟩
    have hc := hcell i (by omega)
    obtain ⟨b, off, rfl, hadd⟩ := spot_none (hcell 0 (by omega))
    rw [hadd] at hc
    have hi' : i < zs.length := by omega
    have := bounds_i64 (hwz (zs.getD i 0) (by rw [List.getD_eq_getElem?_getD, List.getElem?_eq_getElem hi']; exact List.getElem_mem hi'))
    exact ⟨b, off, rfl, hc, this.1, this.2⟩
end
end Go.Proofs.Qxb6616485aDoor.Pf
