/-
  'Rows.FnMarshalRoundTripSaid' PROVED: the frame, after the guide's for slices and integers (proof-skeleton.mjs), with structs of eight ints by value.
-/
import Derived.Test.Qxb6001432aLaw4Walk
import Derived.ProofKit
import Derived.ShutString
import Derived.ChangeOld
import Derived.Below
namespace Go.Proofs.Qxb6001432a.fnMarshalRoundTrip
open Go.ChangeShapes Go.WideShapes Go.ChangeAt Go.RowKit

theorem own : ownKnob Try.prog.godebug = none := by kernel_rfl
theorem laidOut : laidOutB Try.prog = true := by kernel_rfl
theorem cells37 : Try.prog.cellsOf 37 = 8 := by kernel_rfl

theorem array8 {α : Type} {cs : Array α} (h : cs.size = 8) : ∃ c0 c1 c2 c3 c4 c5 c6 c7, cs = #[c0, c1, c2, c3, c4, c5, c6, c7] := by
  obtain ⟨l⟩ := cs
  match l, h with
  | [c0, c1, c2, c3, c4, c5, c6, c7], _ => exact ⟨c0, c1, c2, c3, c4, c5, c6, c7, rfl⟩

theorem list8 {α : Type} {cs : List α} (h : cs.length = 8) : ∃ c0 c1 c2 c3 c4 c5 c6 c7, cs = [c0, c1, c2, c3, c4, c5, c6, c7] := by
  match cs, h with
  | [c0, c1, c2, c3, c4, c5, c6, c7], _ => exact ⟨c0, c1, c2, c3, c4, c5, c6, c7, rfl⟩

theorem one_int {H : Type} {enc : TypeId × Value → H} {W : World} {base : Nat} {spare : Nat → Bool} {held : Bool} {n : Nat} {c : Value} {y : DataW H × List MemPlace} (h : DataW.trod enc Try.prog W base spare held n 3 [c] = some y) :
    ∃ x : Int, c = .int .i64 x ∧ (Lit.int .i64 x).wf = true := by
  obtain ⟨x, hx, _, hw⟩ := DataW.trod_int Try.underlying3 h
  simp only [List.cons.injEq, and_true] at hx
  exact ⟨x, hx, hw⟩

/-- A struct of eight ints by value, opened. -/
theorem open37 {H : Type} {enc : TypeId × Value → H} {W : World} {base : Nat} {spare : Nat → Bool} {held : Bool} {r : Reach} {b0 : Nat} {v : Value} {d : DataW H} {p : List MemPlace} (hv : Value.okWide Try.prog W r b0 37 v) (h : DataW.Trod enc Try.prog W base spare held 37 v d p) :
    ∃ x0 x1 x2 x3 x4 x5 x6 x7 : Int, v = .agg #[.int .i64 x0, .int .i64 x1, .int .i64 x2, .int .i64 x3, .int .i64 x4, .int .i64 x5, .int .i64 x6, .int .i64 x7] ∧ Ints [x0, x1, x2, x3, x4, x5, x6, x7] := by
  obtain ⟨cs, rfl, hsz⟩ := okWide_struct Try.underlying37 hv
  obtain ⟨c0, c1, c2, c3, c4, c5, c6, c7, rfl⟩ := array8 (hsz.trans cells37)
  obtain ⟨fuel, hf⟩ := h
  obtain ⟨xs, n, _, _, _, hlen, hfld⟩ := DataW.trod_struct Try.underlying37 hf
  obtain ⟨y0, y1, y2, y3, y4, y5, y6, y7, rfl⟩ := list8 (hlen.trans rfl)
  have f0 := hfld 0 _ rfl
  simp only [Value.cells] at f0
  obtain ⟨x0, e0, w0⟩ := one_int (c := c0) (y := y0) f0
  have f1 := hfld 1 _ rfl
  simp only [Value.cells] at f1
  obtain ⟨x1, e1, w1⟩ := one_int (c := c1) (y := y1) f1
  have f2 := hfld 2 _ rfl
  simp only [Value.cells] at f2
  obtain ⟨x2, e2, w2⟩ := one_int (c := c2) (y := y2) f2
  have f3 := hfld 3 _ rfl
  simp only [Value.cells] at f3
  obtain ⟨x3, e3, w3⟩ := one_int (c := c3) (y := y3) f3
  have f4 := hfld 4 _ rfl
  simp only [Value.cells] at f4
  obtain ⟨x4, e4, w4⟩ := one_int (c := c4) (y := y4) f4
  have f5 := hfld 5 _ rfl
  simp only [Value.cells] at f5
  obtain ⟨x5, e5, w5⟩ := one_int (c := c5) (y := y5) f5
  have f6 := hfld 6 _ rfl
  simp only [Value.cells] at f6
  obtain ⟨x6, e6, w6⟩ := one_int (c := c6) (y := y6) f6
  have f7 := hfld 7 _ rfl
  simp only [Value.cells] at f7
  obtain ⟨x7, e7, w7⟩ := one_int (c := c7) (y := y7) f7
  subst e0 e1 e2 e3 e4 e5 e6 e7
  refine ⟨x0, x1, x2, x3, x4, x5, x6, x7, rfl, ?_⟩
  intro k
  by_cases hk : k < 8
  · obtain rfl | rfl | rfl | rfl | rfl | rfl | rfl | rfl : k = 0 ∨ k = 1 ∨ k = 2 ∨ k = 3 ∨ k = 4 ∨ k = 5 ∨ k = 6 ∨ k = 7 := by omega
    · exact bounds_i64 w0
    · exact bounds_i64 w1
    · exact bounds_i64 w2
    · exact bounds_i64 w3
    · exact bounds_i64 w4
    · exact bounds_i64 w5
    · exact bounds_i64 w6
    · exact bounds_i64 w7
  · have : bi [x0, x1, x2, x3, x4, x5, x6, x7] k = 0 := by simp only [bi, List.getD]; rw [List.getElem?_eq_none (by simp; omega)]; rfl
    rw [this]; omega
end Go.Proofs.Qxb6001432a.fnMarshalRoundTrip
