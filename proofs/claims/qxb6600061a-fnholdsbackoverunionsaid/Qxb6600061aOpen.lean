/-
  SLICES OF STRINGS AND BOOLS THAT CAME IN, OPENED for the walks.
-/
import Derived.Test.Qxb6600061aLaw5
import Derived.ProofKit
import Derived.SliceStrings
import Derived.Deep.Grids
namespace Go.Proofs.Qxb6600061a
open Go.ChangeShapes Go.WideShapes Go.RowKit Go.Deep

theorem cells9 : Try.prog.cellsOf 9 = 1 := by kernel_rfl
theorem cells4 : Try.prog.cellsOf 4 = 1 := by kernel_rfl
theorem empty_size : ByteArray.empty.size ≤ maxLen := by show 0 ≤ _; omega

theorem open_strs {H : Type} {enc : TypeId × Value → H} {W : World} {a : Option Addr} {len cap : Nat} {d : DataW H} {p : List MemPlace} (h : DataW.Trod enc Try.prog W 0 (fun _ => true) true 45 (.slice a len cap) d p) : ∃ zs, IsStrs W a len zs := by
  obtain ⟨fuel, hf⟩ := h
  rcases open_strings Try.underlying45 Try.underlying9 cells9 hf with ⟨hcs, _⟩ | ⟨x, l, c, ss, hcs, _, hl, hm, hz, _, hcell, hsz⟩
  · simp [Value.cells] at hcs
    obtain ⟨rfl, rfl, rfl⟩ := hcs
    exact ⟨[], ⟨⟨fun _ => rfl, fun x hx => by cases hx⟩, rfl, by unfold maxLen; omega, fun _ => empty_size⟩⟩
  · simp [Value.cells] at hcs
    obtain ⟨rfl, rfl, rfl⟩ := hcs
    simp only [if_true] at hz
    refine ⟨ss.take len, ⟨⟨(fun hx => by cases hx), fun x' hx j hj => ?_⟩, by simp; omega, by omega, fun j => ?_⟩⟩
    · cases hx
      have hj' : j < len := by simp at hj; omega
      rw [hcell j (by omega)]
      simp [ga, List.getD, hj']
    · unfold ga List.getD
      cases e : (ss.take len)[j]? with
      | none => exact empty_size
      | some s => exact hsz s (List.mem_of_mem_take (List.mem_of_getElem? e))

theorem open_bls {H : Type} {enc : TypeId × Value → H} {W : World} {a : Option Addr} {len cap : Nat} {d : DataW H} {p : List MemPlace} (h : DataW.Trod enc Try.prog W 0 (fun _ => true) true 46 (.slice a len cap) d p) : ∃ zs, IsBools W a len zs := by
  obtain ⟨fuel, hf⟩ := h
  rcases open_bools Try.underlying46 Try.underlying4 cells4 hf with ⟨hcs, _⟩ | ⟨x, l, c, Bf, hcs, _, hl, hm, _, hcell⟩
  · simp [Value.cells] at hcs
    obtain ⟨rfl, rfl, rfl⟩ := hcs
    exact ⟨[], ⟨⟨fun _ => rfl, fun x hx => by cases hx⟩, rfl, by unfold maxLen; omega⟩⟩
  · simp [Value.cells] at hcs
    obtain ⟨rfl, rfl, rfl⟩ := hcs
    refine ⟨(List.range len).map Bf, ⟨⟨(fun hx => by cases hx), fun x' hx j hj => ?_⟩, by simp, by omega⟩⟩
    cases hx
    have hj' : j < len := by simpa using hj
    rw [hcell j (by omega)]
    simp [ga, List.getD, hj']
end Go.Proofs.Qxb6600061a
