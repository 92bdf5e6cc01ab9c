/-
  A SLICE OF SPANS THAT CAME IN, OPENED for the walk.
-/
import Derived.Test.Qxb6600061aLaw7
import Derived.ProofKit
import Derived.ChangeSlices
import Derived.Deep.Slices
import Derived.Lib.SmallJoins
namespace Go.Proofs.Qxb6600061a
open Go.ChangeShapes Go.WideShapes Go.RowKit Go.Deep

theorem cells31 : Try.prog.cellsOf 31 = 4 := by kernel_rfl
theorem cells2 : Try.prog.cellsOf 2 = 1 := by kernel_rfl
theorem cells3 : Try.prog.cellsOf 3 = 1 := by kernel_rfl
theorem cells23 : Try.prog.cellsOf 23 = 1 := by kernel_rfl

section
variable {H : Type} {enc : TypeId × Value → H} {W : World}

theorem int_2 {n : Nat} {c : Value} {y : DataW H × List MemPlace} (h : DataW.trod enc Try.prog W 0 (fun _ => true) true n 2 [c] = some y) : ∃ x : Int, c = .int .i64 x := by
  obtain ⟨x, hx, _, _⟩ := DataW.trod_int Try.underlying2 h
  simp only [List.cons.injEq, and_true] at hx
  exact ⟨x, hx⟩
theorem int_3 {n : Nat} {c : Value} {y : DataW H × List MemPlace} (h : DataW.trod enc Try.prog W 0 (fun _ => true) true n 3 [c] = some y) : ∃ x : Int, c = .int .i64 x := by
  obtain ⟨x, hx, _, _⟩ := DataW.trod_int Try.underlying3 h
  simp only [List.cons.injEq, and_true] at hx
  exact ⟨x, hx⟩
theorem watch_23 {n : Nat} {c : Value} {y : DataW H × List MemPlace} (h : DataW.trod enc Try.prog W 0 (fun _ => true) true n 23 [c] = some y) :
    ∃ a len cap zs, c = .slice a len cap ∧ Row (Value.int .i64) 0 W a zs ∧ zs.length = len := by
  rcases open_ints Try.underlying23 Try.underlying2 cells2 h with ⟨hcs, _⟩ | ⟨x, l, cp, zs, hcs, _, hl, _, hz, _, hcell, _⟩
  · simp only [List.cons.injEq, and_true] at hcs
    exact ⟨none, 0, 0, [], hcs, ⟨fun _ => rfl, fun x hx => by cases hx⟩, rfl⟩
  · simp only [List.cons.injEq, and_true] at hcs
    simp only [if_true] at hz
    refine ⟨some x, l, cp, zs.take l, hcs, ⟨(fun hx => by cases hx), fun x' hx j hj => ?_⟩, by simp; omega⟩
    cases hx
    have hj' : j < l := by simp at hj; omega
    rw [hcell j (by omega)]
    simp [ga, List.getD, hj']

theorem list4 {α : Type} {cs : List α} (h : cs.length = 4) : ∃ c0 c1 c2 c3, cs = [c0, c1, c2, c3] := by
  match cs, h with
  | [c0, c1, c2, c3], _ => exact ⟨c0, c1, c2, c3, rfl⟩

theorem span_31 {n : Nat} {cs : List Value} {y : DataW H × List MemPlace} (h : DataW.trod enc Try.prog W 0 (fun _ => true) true n 31 cs = some y) : ∃ s : Sp, cs = f4 s ∧ SOk W s := by
  obtain ⟨y0, y1, y2, y3, m, _, hlen, h0, h1, h2, h3⟩ := Go.Joins.trod_struct4 Try.underlying31 h
  obtain ⟨v0, v1, v2, v3, rfl⟩ := list4 (hlen.trans cells31)
  simp only [cells2, cells3, cells23, List.drop_zero, List.drop_succ_cons, List.take_succ_cons, List.take_zero] at h0 h1 h2 h3
  obtain ⟨x0, rfl⟩ := int_2 h0
  obtain ⟨x1, rfl⟩ := int_2 h1
  obtain ⟨x2, rfl⟩ := int_3 h2
  obtain ⟨a, len, cap, zs, rfl, hr, hz⟩ := watch_23 h3
  exact ⟨⟨x0, x1, x2, a, len, cap, zs⟩, rfl, hr, hz⟩

theorem open_spans {a : Option Addr} {len cap : Nat} {d : DataW H} {p : List MemPlace} (h : DataW.Trod enc Try.prog W 0 (fun _ => true) true 22 (.slice a len cap) d p) : ∃ l, IsSpans W a len l := by
  obtain ⟨fuel, hf⟩ := h
  rcases open_slice Try.underlying22 hf with ⟨hcs, _⟩ | ⟨x, l, c, m, n, D, Pl, hcs, _, hl, hm, hmm, _, hx⟩
  · simp [Value.cells] at hcs
    obtain ⟨rfl, rfl, rfl⟩ := hcs
    exact ⟨[], ⟨⟨fun _ => rfl, (fun x hx => by cases hx), (fun j hj => by simp at hj)⟩, rfl, by unfold maxLen; omega⟩⟩
  · simp [Value.cells] at hcs
    obtain ⟨rfl, rfl, rfl⟩ := hcs
    simp only [if_true] at hmm
    obtain ⟨F, hF⟩ := @choose_lt Sp ⟨dS⟩ len (fun i s => SOk W s ∧ ∀ q, q < 4 → W.cell? ((x.add (i * 4)).add q) = (f4 s)[q]?) (fun i hi => by
      obtain ⟨cs', h1, h2⟩ := hx i (by omega)
      rw [cells31] at h1
      obtain ⟨_, _, hc⟩ := World.cells?_some h1
      obtain ⟨s, rfl, hok⟩ := span_31 h2
      exact ⟨s, hok, hc⟩)
    have hg : ∀ j, j < len → ga dS ((List.range len).map F) j = F j := fun j hj => by simp [ga, List.getD, hj]
    refine ⟨(List.range len).map F, ⟨⟨(fun hx => by cases hx), ?_, ?_⟩, by simp, by omega⟩⟩
    · intro x' hx' j hj
      cases hx'
      have hj' : j < len := by simpa using hj
      have hc := (hF j hj').2
      rw [hg j hj']
      have k0 := hc 0 (by omega)
      have k1 := hc 1 (by omega)
      have k2 := hc 2 (by omega)
      have k3 := hc 3 (by omega)
      rw [add_add] at k0 k1 k2 k3
      rw [Nat.add_zero] at k0
      exact ⟨k0, k1, k2, k3⟩
    · intro j hj
      have hj' : j < len := by simpa using hj
      rw [hg j hj']
      exact (hF j hj').1
end
end Go.Proofs.Qxb6600061a
