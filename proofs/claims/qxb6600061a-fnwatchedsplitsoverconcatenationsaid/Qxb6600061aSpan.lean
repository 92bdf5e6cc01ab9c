/-
  SPANS IN MEMORY: a span is four cells (Lo, Hi, Pending, Watch), Watch a slice of int64.
-/
import Derived.Test.Qxb6600061aBase
namespace Go.Proofs.Qxb6600061a
open Go.RowKit

structure Sp where
  lo : Int
  hi : Int
  pd : Int
  wa : Option Addr
  wn : Nat
  wc : Nat
  wl : List Int

def dS : Sp := ⟨0, 0, 0, none, 0, 0, []⟩
def iV (n : Int) : Value := .int .i64 n
/-- Its watch reads as its list. -/
structure SOk (w : World) (s : Sp) : Prop where
  row : Row (Value.int .i64) 0 w s.wa s.wl
  len : s.wl.length = s.wn
theorem SOk.grown {w w' : World} {s : Sp} (h : SOk w s) (hg : w.grownBy w' none) : SOk w' s := ⟨h.row.grown hg, h.len⟩

/-- A row of spans: what came in, a cut of it, or the call's own. -/
structure SRow (w : World) (a : Option Addr) (l : List Sp) : Prop where
  nil : a = none → l = []
  cell : ∀ x, a = some x → ∀ j, j < l.length → w.cell? (x.add (j * 4)) = some (.int .i64 (ga dS l j).lo) ∧ w.cell? (x.add (j * 4 + 1)) = some (.int .i64 (ga dS l j).hi) ∧ w.cell? (x.add (j * 4 + 2)) = some (.int .i64 (ga dS l j).pd) ∧
    w.cell? (x.add (j * 4 + 3)) = some (.slice (ga dS l j).wa (ga dS l j).wn (ga dS l j).wc)
  ok : ∀ j, j < l.length → SOk w (ga dS l j)
theorem SRow.grown {w w' : World} {a : Option Addr} {l : List Sp} (h : SRow w a l) (hg : w.grownBy w' none) : SRow w' a l :=
  ⟨h.nil, fun x hx j hj => by
    obtain ⟨h0, h1, h2, h3⟩ := h.cell x hx j hj
    exact ⟨hg.cell h0 (by simp), hg.cell h1 (by simp), hg.cell h2 (by simp), hg.cell h3 (by simp)⟩, fun j hj => (h.ok j hj).grown hg⟩
theorem SRow.at {w : World} {a : Option Addr} {l : List Sp} (h : SRow w a l) (hp : 0 < l.length) :
    ∃ b off, a = some ⟨b, off, none⟩ ∧ ∀ j, j < l.length → w.cell? ⟨b, off + j * 4, none⟩ = some (.int .i64 (ga dS l j).lo) ∧ w.cell? ⟨b, off + j * 4 + 1, none⟩ = some (.int .i64 (ga dS l j).hi) ∧ w.cell? ⟨b, off + j * 4 + 2, none⟩ = some (.int .i64 (ga dS l j).pd) ∧
      w.cell? ⟨b, off + j * 4 + 3, none⟩ = some (.slice (ga dS l j).wa (ga dS l j).wn (ga dS l j).wc) := by
  cases a with
  | none => rw [h.nil rfl] at hp; simp at hp
  | some x =>
    obtain ⟨b, off, spot⟩ := x
    have hspot : spot = none := by simpa [Addr.add] using World.cell?_spot (h.cell _ rfl 0 hp).1
    subst hspot
    exact ⟨b, off, rfl, fun j hj => by simpa only [Addr.add_lit, Nat.add_assoc] using h.cell _ rfl j hj⟩

/-- How much the watches of the first k spans hold. -/
def wsum (l : List Sp) : Nat → Nat
  | 0 => 0
  | k + 1 => wsum l k + (ga dS l k).wn
/-- The watches, one behind the other. -/
def W (l : List Sp) : List Int := l.flatMap Sp.wl

end Go.Proofs.Qxb6600061a
