/-
  ROWS OF SPANS OF THE CALL's OWN: four cells a span (Span), five (ZZSpan, heldSpan). Plain lists; no walk.
-/
import Derived.Test.Qxb6600061aSpan
namespace Go.Proofs.Qxb6600061a
open Go.RowKit

def c4 (s : Sp) : Nat → Value
  | 0 => .int .i64 s.lo
  | 1 => .int .i64 s.hi
  | 2 => .int .i64 s.pd
  | _ => .slice s.wa s.wn s.wc
def c5 (s : Sp) : Nat → Value
  | 0 => .int .i64 s.lo
  | 1 => .int .i64 s.hi
  | 2 => .map none
  | 3 => .int .i64 s.pd
  | _ => .slice s.wa s.wn s.wc

/-- N spans of sz cells each: the spans of l first, then empty ones. -/
def tabS (sz : Nat) (c : Sp → Nat → Value) (N : Nat) (l : List Sp) : List Value := (List.range (N * sz)).map fun m => c (ga dS l (m / sz)) (m % sz)
theorem tabS_length (sz : Nat) (c : Sp → Nat → Value) (N : Nat) (l : List Sp) : (tabS sz c N l).length = N * sz := by simp [tabS]
theorem tabS_get (sz : Nat) (c : Sp → Nat → Value) (N : Nat) (l : List Sp) (m : Nat) (h : m < N * sz) : (tabS sz c N l)[m]? = some (c (ga dS l (m / sz)) (m % sz)) := by simp [tabS, h]
theorem tabS_at (sz : Nat) (c : Sp → Nat → Value) (N : Nat) (l : List Sp) (j q : Nat) (hj : j < N) (hq : q < sz) : (tabS sz c N l)[j * sz + q]? = some (c (ga dS l j) q) := by
  have h1 : j * sz + q < N * sz := by
    have := Nat.mul_le_mul_right sz (show j + 1 ≤ N by omega)
    rw [Nat.add_mul] at this
    omega
  have h2 : (j * sz + q) / sz = j := by rw [Nat.mul_comm, Nat.mul_add_div (by omega), Nat.div_eq_of_lt hq]; omega
  have h3 : (j * sz + q) % sz = q := by rw [Nat.mul_comm, Nat.mul_add_mod, Nat.mod_eq_of_lt hq]
  rw [tabS_get _ _ _ _ _ h1, h2, h3]
theorem ga_snoc (l : List Sp) (s : Sp) (j : Nat) : ga dS (l ++ [s]) j = if j = l.length then s else ga dS l j := by
  unfold ga List.getD
  by_cases h : j = l.length
  · subst h; simp
  · by_cases h2 : j < l.length
    · rw [List.getElem?_append_left h2, if_neg h]
    · rw [if_neg h, List.getElem?_eq_none (by simp; omega), List.getElem?_eq_none (by omega)]
theorem tabS_snoc (sz : Nat) (c : Sp → Nat → Value) (N : Nat) (l : List Sp) (s : Sp) (m : Nat) (h : m < N * sz) : (tabS sz c N (l ++ [s]))[m]? = some (if m / sz = l.length then c s (m % sz) else c (ga dS l (m / sz)) (m % sz)) := by
  rw [tabS_get _ _ _ _ _ h, ga_snoc]
  split <;> rfl

theorem tab5_step (c : Sp → Nat → Value) (N k : Nat) (l : List Sp) (s : Sp) (hl : l.length = k) :
    (((((tabS 5 c N l).set (k * 5) (c s 0)).set (k * 5 + 1) (c s 1)).set (k * 5 + 2) (c s 2)).set (k * 5 + 3) (c s 3)).set (k * 5 + 4) (c s 4) = tabS 5 c N (l ++ [s]) := by
  apply List.ext_getElem?
  intro m
  by_cases hm : m < N * 5
  · rw [tabS_snoc _ _ _ _ _ _ hm, hl]
    simp only [List.getElem?_set, List.length_set, tabS_length]
    by_cases hq : m / 5 = k
    · rw [if_pos hq]
      obtain h | h | h | h | h : m = k * 5 ∨ m = k * 5 + 1 ∨ m = k * 5 + 2 ∨ m = k * 5 + 3 ∨ m = k * 5 + 4 := by omega
      all_goals
        have e : m % 5 = m - k * 5 := by omega
        subst h
        simp [e, hm]
      all_goals (try omega)
    · rw [if_neg hq, if_neg (by omega), if_neg (by omega), if_neg (by omega), if_neg (by omega), if_neg (by omega), tabS_get _ _ _ _ _ hm]
  · rw [List.getElem?_eq_none (by simp [tabS_length]; omega), List.getElem?_eq_none (by simp [tabS_length]; omega)]
theorem tab4_step (c : Sp → Nat → Value) (N k : Nat) (l : List Sp) (s : Sp) (hl : l.length = k) :
    ((((tabS 4 c N l).set (k * 4) (c s 0)).set (k * 4 + 1) (c s 1)).set (k * 4 + 2) (c s 2)).set (k * 4 + 3) (c s 3) = tabS 4 c N (l ++ [s]) := by
  apply List.ext_getElem?
  intro m
  by_cases hm : m < N * 4
  · rw [tabS_snoc _ _ _ _ _ _ hm, hl]
    simp only [List.getElem?_set, List.length_set, tabS_length]
    by_cases hq : m / 4 = k
    · rw [if_pos hq]
      obtain h | h | h | h : m = k * 4 ∨ m = k * 4 + 1 ∨ m = k * 4 + 2 ∨ m = k * 4 + 3 := by omega
      all_goals
        have e : m % 4 = m - k * 4 := by omega
        subst h
        simp [e, hm]
      all_goals (try omega)
    · rw [if_neg hq, if_neg (by omega), if_neg (by omega), if_neg (by omega), if_neg (by omega), tabS_get _ _ _ _ _ hm]
  · rw [List.getElem?_eq_none (by simp [tabS_length]; omega), List.getElem?_eq_none (by simp [tabS_length]; omega)]

theorem made_tab (sz : Nat) (c : Sp → Nat → Value) (N : Nat) (zc : Array Value) (hs : zc.size = sz) (hp : 0 < sz) (hz : ∀ q, q < sz → zc[q]? = some (c dS q)) : (madeCells zc (N * sz)).toList = tabS sz c N [] := by
  apply List.ext_getElem?
  intro m
  by_cases hm : m < N * sz
  · have hq := hz (m % sz) (Nat.mod_lt _ hp)
    have e2 : (madeCells zc (N * sz)).toList[m]? = some (zc[m % zc.size]!) := by simp [madeCells, hm]
    have e3 : zc[m % zc.size]! = c dS (m % sz) := by rw [hs, getElem!_def, hq]
    rw [tabS_get _ _ _ _ _ hm, e2, e3]
    rfl
  · rw [List.getElem?_eq_none (by simp [madeCells]; omega), List.getElem?_eq_none (by simp [tabS_length]; omega)]

theorem take_ga (l : List Sp) (i : Nat) (h : i < l.length) : l.take (i + 1) = l.take i ++ [ga dS l i] := by
  rw [List.take_succ_eq_append_getElem h, ga_lt dS l i h]
theorem stored4 {w : World} {base : Nat} {e : TypeId} {sz g n cap : Nat} {xs : List Value} (h : w.ownsRow base e sz (.slice (some ⟨g, 0, none⟩) n cap) n xs) (k : Nat) (v0 v1 v2 v3 : Value) :
    ((((w.setCell ⟨g, k, none⟩ v0).setCell ⟨g, k + 1, none⟩ v1).setCell ⟨g, k + 2, none⟩ v2).setCell ⟨g, k + 3, none⟩ v3).ownsRow base e sz (.slice (some ⟨g, 0, none⟩) n cap) n ((((xs.set k v0).set (k + 1) v1).set (k + 2) v2).set (k + 3) v3) ∧
      w.grownBy ((((w.setCell ⟨g, k, none⟩ v0).setCell ⟨g, k + 1, none⟩ v1).setCell ⟨g, k + 2, none⟩ v2).setCell ⟨g, k + 3, none⟩ v3) (some g) := by
  have h0 := h.stored k v0
  have h1 := h0.1.stored (k + 1) v1
  have h2 := h1.1.stored (k + 2) v2
  have h3 := h2.1.stored (k + 3) v3
  exact ⟨h3.1, grownBy_trans (grownBy_trans (grownBy_trans h0.2 h1.2 (.inl rfl)) h2.2 (.inl rfl)) h3.2 (.inl rfl)⟩
theorem stored5 {w : World} {base : Nat} {e : TypeId} {sz g n cap : Nat} {xs : List Value} (h : w.ownsRow base e sz (.slice (some ⟨g, 0, none⟩) n cap) n xs) (k : Nat) (v0 v1 v2 v3 v4 : Value) :
    (((((w.setCell ⟨g, k, none⟩ v0).setCell ⟨g, k + 1, none⟩ v1).setCell ⟨g, k + 2, none⟩ v2).setCell ⟨g, k + 3, none⟩ v3).setCell ⟨g, k + 4, none⟩ v4).ownsRow base e sz (.slice (some ⟨g, 0, none⟩) n cap) n (((((xs.set k v0).set (k + 1) v1).set (k + 2) v2).set (k + 3) v3).set (k + 4) v4) ∧
      w.grownBy (((((w.setCell ⟨g, k, none⟩ v0).setCell ⟨g, k + 1, none⟩ v1).setCell ⟨g, k + 2, none⟩ v2).setCell ⟨g, k + 3, none⟩ v3).setCell ⟨g, k + 4, none⟩ v4) (some g) := by
  have h3 := stored4 h k v0 v1 v2 v3
  have h4 := h3.1.stored (k + 4) v4
  exact ⟨h4.1, grownBy_trans h3.2 h4.2 (.inl rfl)⟩

/-- A row of five cells a span, of the call's own. -/
structure ZRow (w : World) (g : Nat) (l : List Sp) : Prop where
  cell : ∀ j, j < l.length → w.cell? ⟨g, j * 5, none⟩ = some (.int .i64 (ga dS l j).lo) ∧ w.cell? ⟨g, j * 5 + 1, none⟩ = some (.int .i64 (ga dS l j).hi) ∧ w.cell? ⟨g, j * 5 + 2, none⟩ = some (.map none) ∧ w.cell? ⟨g, j * 5 + 3, none⟩ = some (.int .i64 (ga dS l j).pd) ∧
    w.cell? ⟨g, j * 5 + 4, none⟩ = some (.slice (ga dS l j).wa (ga dS l j).wn (ga dS l j).wc)
  ok : ∀ j, j < l.length → SOk w (ga dS l j)
theorem ZRow.grown {w w' : World} {g : Nat} {l : List Sp} (h : ZRow w g l) (hg : w.grownBy w' none) : ZRow w' g l :=
  ⟨fun j hj => by
    obtain ⟨h0, h1, h2, h3, h4⟩ := h.cell j hj
    exact ⟨hg.cell h0 (by simp), hg.cell h1 (by simp), hg.cell h2 (by simp), hg.cell h3 (by simp), hg.cell h4 (by simp)⟩, fun j hj => (h.ok j hj).grown hg⟩
theorem ZRow.of_own {w : World} {base : Nat} {e : TypeId} {g N cap : Nat} {l : List Sp} (h : w.ownsRow base e 5 (.slice (some ⟨g, 0, none⟩) N cap) N (tabS 5 c5 N l)) (hl : l.length = N) (hok : ∀ j, j < l.length → SOk w (ga dS l j)) : ZRow w g l := by
  refine ⟨fun j hj => ?_, hok⟩
  have at_ : ∀ q, q < 5 → w.cell? ⟨g, j * 5 + q, none⟩ = some (c5 (ga dS l j) q) := fun q hq => by
    rw [h.cellAt (j * 5 + q) (by omega)]; exact tabS_at 5 c5 N l j q (by omega) hq
  exact ⟨at_ 0 (by omega), at_ 1 (by omega), at_ 2 (by omega), at_ 3 (by omega), at_ 4 (by omega)⟩
theorem SRow.of_own {w : World} {base : Nat} {e : TypeId} {g N cap : Nat} {l : List Sp} (h : w.ownsRow base e 4 (.slice (some ⟨g, 0, none⟩) N cap) N (tabS 4 c4 N l)) (hl : l.length = N) (hok : ∀ j, j < l.length → SOk w (ga dS l j)) : SRow w (some ⟨g, 0, none⟩) l := by
  refine ⟨(fun hx => by cases hx), ?_, hok⟩
  intro x hx j hj
  cases hx
  have at_ : ∀ q, q < 4 → w.cell? ((⟨g, 0, none⟩ : Addr).add (j * 4 + q)) = some (c4 (ga dS l j) q) := fun q hq => by
    rw [Addr.add_lit, Nat.zero_add, h.cellAt (j * 4 + q) (by omega)]; exact tabS_at 4 c4 N l j q (by omega) hq
  exact ⟨at_ 0 (by omega), at_ 1 (by omega), at_ 2 (by omega), at_ 3 (by omega)⟩
end Go.Proofs.Qxb6600061a
