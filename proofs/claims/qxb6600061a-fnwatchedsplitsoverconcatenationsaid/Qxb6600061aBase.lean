/-
  THE SEAT's BASE: rows and maps of the call's own; plain lists; no walk.
-/
import Derived.Test.Qxb6600061aRows
import Derived.WalkKit
import Derived.WalkSpells
import Derived.Maps.RangeWalk
import Derived.Maps.OwnOps
import Derived.Lib.SliceRun
import Derived.Deep.Draws
namespace Go.Proofs.Qxb6600061a
open Go.RowKit

theorem grownBy_trans {w w1 w2 : World} {r1 r2 : Option Nat} (h1 : w.grownBy w1 r1) (h2 : w1.grownBy w2 r2) (hr : r2 = r1 ∨ ∀ k, r2 = some k → w.heap.size ≤ k) : w.grownBy w2 r1 := by
  refine ⟨h2.os.trans h1.os, h2.tape.trans h1.tape, h2.output.trans h1.output, Nat.le_trans h1.size h2.size, fun k hk hne => ?_⟩
  rw [h2.block k (Nat.lt_of_lt_of_le hk h1.size) ?_, h1.block k hk hne]
  rcases hr with rfl | hr
  · exact hne
  · intro e
    have := hr k e.symm
    omega
theorem grown_drew {w w' : World} {r : Option Nat} (h : w.grownBy w' r) : w.grownBy w'.drew r := ⟨h.os, h.tape, h.output, h.size, h.block⟩
theorem grown_drewN {w w' : World} {r : Option Nat} (h : w.grownBy w' r) (k : Nat) : w.grownBy (w'.drewN k) r := ⟨h.os, h.tape, h.output, h.size, h.block⟩
theorem below_of {w w' : World} (hg : w.grownBy w' none) : Below w.heap.size w w' := (Below.refl _ _).grown hg (Nat.le_refl _) (fun k hk => by cases hk)
theorem kept0 {w w' : World} {base : Nat} {e : TypeId} {size : Nat} {v : Value} {n : Nat} {xs : List Value} (h : w.ownsRow base e size v n xs) (hg : w.grownBy w' none) : w'.ownsRow base e size v n xs :=
  h.kept hg (by cases v.ownBlock <;> simp)
theorem own_mono {w w' : World} {b : Nat} {e : TypeId} {z : Nat} {v : Value} {n : Nat} {xs : List Value} (hb : w.heap.size ≤ b) (h : w'.ownsRow b e z v n xs) : w'.ownsRow w.heap.size e z v n xs :=
  ⟨h.1, h.2.imp id fun ⟨g, cap, cur, a1, a2, a3⟩ => ⟨g, cap, cur, a1, Nat.le_trans hb a2, a3⟩⟩
theorem ownsRow_shape {w : World} {base : Nat} {e : TypeId} {size : Nat} {v : Value} {n : Nat} {xs : List Value} (h : w.ownsRow base e size v n xs) : ∃ a cap, v = .slice a n cap := by
  rcases h.2 with ⟨rfl, rfl⟩ | ⟨g, cap, cur, rfl, _⟩
  · exact ⟨_, _, rfl⟩
  · exact ⟨_, _, rfl⟩
theorem Hid.intro {p : Prop} (h : p) : Hid p := h

/-- Element j of a list (d behind its end): a name that the walk does not open. -/
def ga {α : Type} (d : α) (l : List α) (j : Nat) : α := l.getD j d
theorem ga_lt {α : Type} (d : α) (l : List α) (j : Nat) (h : j < l.length) : ga d l j = l[j] := by simp [ga, List.getD, h]
theorem ga_out {α : Type} (d : α) (l : List α) (j : Nat) (h : l.length ≤ j) : ga d l j = d := by simp [ga, List.getD, h]

/-- A row that holds the values of a list: what came in, or is the call's own. -/
structure Row {α : Type} (mk : α → Value) (d : α) (w : World) (a : Option Addr) (l : List α) : Prop where
  nil : a = none → l = []
  cell : ∀ x, a = some x → ∀ j, j < l.length → w.cell? (x.add j) = some (mk (ga d l j))
theorem Row.grown {α : Type} {mk : α → Value} {d : α} {w w' : World} {a : Option Addr} {l : List α} (h : Row mk d w a l) (hg : w.grownBy w' none) : Row mk d w' a l :=
  ⟨h.nil, fun x hx j hj => hg.cell (h.cell x hx j hj) (by simp)⟩
/-- Its cells, told plainly, where it holds something. -/
theorem Row.at {α : Type} {mk : α → Value} {d : α} {w : World} {a : Option Addr} {l : List α} (h : Row mk d w a l) (hp : 0 < l.length) :
    ∃ b off, a = some ⟨b, off, none⟩ ∧ ∀ j, j < l.length → w.cell? ⟨b, off + j, none⟩ = some (mk (ga d l j)) := by
  cases a with
  | none => rw [h.nil rfl] at hp; simp at hp
  | some x =>
    obtain ⟨b, off, spot⟩ := x
    have hspot : spot = none := by simpa [Addr.add] using World.cell?_spot (h.cell _ rfl 0 hp)
    subst hspot
    exact ⟨b, off, rfl, fun j hj => by simpa [Addr.add_lit] using h.cell _ rfl j hj⟩
theorem Row.of_own {α : Type} {mk : α → Value} {d : α} {w : World} {base : Nat} {e : TypeId} {a : Option Addr} {n cap : Nat} {l : List α} (h : w.ownsRow base e 1 (.slice a n cap) n (l.map mk)) : Row mk d w a l := by
  have hl : l.length = n := by have := h.1; simp at this; omega
  rcases h.2 with ⟨hv, rfl⟩ | ⟨g, cap', cur, hv, _⟩
  · simp only [Value.slice.injEq] at hv
    exact ⟨fun _ => List.eq_nil_of_length_eq_zero hl, fun x hx => by rw [hv.1] at hx; cases hx⟩
  · simp only [Value.slice.injEq] at hv
    obtain ⟨rfl, _, rfl⟩ := hv
    refine ⟨(fun hx => by cases hx), fun x hx j hj => ?_⟩
    cases hx
    rw [Addr.add_lit, Nat.zero_add, h.cellAt j (by omega)]
    simp [ga, List.getD, hj]

/-- The first i elements copied, the rest zero. -/
def copied {α : Type} (mk : α → Value) (d : α) (l : List α) (i : Nat) : List Value := (l.take i).map mk ++ List.replicate (l.length - i) (mk d)
theorem copied_length {α : Type} (mk : α → Value) (d : α) (l : List α) (i : Nat) (h : i ≤ l.length) : (copied mk d l i).length = l.length := by simp [copied]; omega
theorem copied_zero {α : Type} (mk : α → Value) (d : α) (l : List α) : copied mk d l 0 = List.replicate l.length (mk d) := by simp [copied]
theorem copied_end {α : Type} (mk : α → Value) (d : α) (l : List α) : copied mk d l l.length = l.map mk := by simp [copied]
theorem copied_get {α : Type} (mk : α → Value) (d : α) (l : List α) (i : Nat) (h : i < l.length) : (copied mk d l i)[i]? = some (mk d) := by
  have hl : ((l.take i).map mk).length = i := by simp; omega
  rw [copied, List.getElem?_append_right (by omega), hl, Nat.sub_self, List.getElem?_replicate, if_pos (by omega)]
theorem copied_step {α : Type} (mk : α → Value) (d : α) (l : List α) (i : Nat) (h : i < l.length) : (copied mk d l i).set i (mk (ga d l i)) = copied mk d l (i + 1) := by
  have e1 : copied mk d l i = (l.take i).map mk ++ mk d :: List.replicate (l.length - (i + 1)) (mk d) := by
    rw [copied, show l.length - i = (l.length - (i + 1)) + 1 by omega, List.replicate_succ]
  have e2 : copied mk d l (i + 1) = (l.take i).map mk ++ mk (ga d l i) :: List.replicate (l.length - (i + 1)) (mk d) := by
    rw [copied, List.take_succ_eq_append_getElem h, ga_lt d l i h, List.map_append, List.append_assoc]
    rfl
  rw [e1, e2, List.set_append_right _ _ (by simp; omega)]
  simp [Nat.min_eq_left (Nat.le_of_lt h)]
end Go.Proofs.Qxb6600061a
