/-
  THE WALK OF joinSpans (22).
-/
import Derived.Test.Qxb6600061aCloneSpans
import Derived.Test.Qxb6600061aApp
namespace Go.Proofs.Qxb6600061a
open Go.RowKit

/-- The four cells of a span. -/
def f4 (s : Sp) : List Value := [.int .i64 s.lo, .int .i64 s.hi, .int .i64 s.pd, .slice s.wa s.wn s.wc]
theorem f4_one (s : Sp) : ∀ u ∈ f4 s, u.oneCell' = true := by
  intro u hu
  simp only [f4, List.mem_cons, List.not_mem_nil, or_false] at hu
  rcases hu with rfl | rfl | rfl | rfl <;> rfl
theorem tabS_app (N : Nat) (l : List Sp) (s : Sp) (hl : l.length = N) : tabS 4 c4 (N + 1) (l ++ [s]) = tabS 4 c4 N l ++ f4 s := by
  apply List.ext_getElem?
  intro m
  by_cases h1 : m < N * 4
  · rw [List.getElem?_append_left (by rw [tabS_length]; exact h1), tabS_get _ _ _ _ _ h1, tabS_snoc _ _ _ _ _ _ (by omega), if_neg (by omega)]
  · rw [List.getElem?_append_right (by rw [tabS_length]; omega), tabS_length]
    by_cases h2 : m < (N + 1) * 4
    · rw [tabS_snoc _ _ _ _ _ _ h2, if_pos (by omega)]
      obtain h | h | h | h : m = N * 4 ∨ m = N * 4 + 1 ∨ m = N * 4 + 2 ∨ m = N * 4 + 3 := by omega
      all_goals
        have e1 : m % 4 = m - N * 4 := by omega
        rw [e1, h]
        simp [f4, c4]
    · rw [List.getElem?_eq_none (by rw [tabS_length]; omega), List.getElem?_eq_none (by simp [f4]; omega)]
theorem src_span (w : World) (s : Sp) : Src Try.prog 4 22 (.slice (some ⟨w.heap.size, 0, none⟩) 1 1) 1 (f4 s) (w.alloc (.cells #[.int .i64 s.lo, .int .i64 s.hi, .int .i64 s.pd, .slice s.wa s.wn s.wc] 31)) := by
  refine Src.ofSlice _ Try.underlying22 ⟨w.heap.size, 0, none⟩ 1 1 _ rfl (fun j u hu => ?_) (f4_one s)
  rw [Addr.add_lit, Nat.zero_add, World.cell?_alloc_new, ← hu, ← Array.getElem?_toList]
  rfl

theorem srow_of {w : World} {base : Nat} {v : Value} {N : Nat} {l : List Sp} (h : w.ownsRow base 31 4 v N (tabS 4 c4 N l)) (hl : l.length = N) (hok : ∀ j, j < l.length → SOk w (ga dS l j)) : ∃ a cap, v = .slice a N cap ∧ SRow w a l := by
  rcases h.2 with ⟨rfl, rfl⟩ | ⟨g, cap, cur, rfl, _⟩
  · obtain rfl : l = [] := List.eq_nil_of_length_eq_zero hl
    exact ⟨none, 0, rfl, fun _ => rfl, (fun x hx => by cases hx), (fun j hj => by simp at hj)⟩
  · exact ⟨_, cap, rfl, SRow.of_own h hl hok⟩

theorem ga_left (l0 l1 : List Sp) (j : Nat) (h : j < l0.length) : ga dS (l0 ++ l1) j = ga dS l0 j := by
  simp [ga, List.getD, List.getElem?_append_left h]
theorem ga_right (l0 l1 : List Sp) (j : Nat) : ga dS (l0 ++ l1) (l0.length + j) = ga dS l1 j := by
  unfold ga List.getD
  rw [List.getElem?_append_right (by omega), Nat.add_sub_cancel_left]

set_option maxRecDepth 100000 in
set_option maxHeartbeats 2000000 in
theorem js_any (w : World) (a0 : Option Addr) (n0 c0 : Nat) (l0 : List Sp) (r0 : SRow w a0 l0) (e0 : l0.length = n0) (b0 : n0 ≤ 1048576)
    (a1 : Option Addr) (n1 c1 : Nat) (l1 : List Sp) (r1 : SRow w a1 l1) (e1 : l1.length = n1) (b1 : n1 ≤ 1048576) :
    Calls Try.prog 22 #[.slice a0 n0 c0, .slice a1 n1 c1] w fun e w' => ∃ a cap, e = .returned (.slice a (n0 + n1) cap) ∧ SRow w' a (l0 ++ l1) ∧ w.grownBy w' none := by
  obtain ⟨i0, hi, hz0, hz1, hz2⟩ := info_parts info31
  have R0 := Hid.intro r0
  have R1 := Hid.intro r1
  have E0 := Hid.intro e0
  have E1 := Hid.intro e1
  have GL := Hid.intro (ga_left l0 l1)
  have GR := Hid.intro (ga_right l0 l1)
  obtain ⟨L, hL⟩ : ∃ L, L = l0 ++ l1 := ⟨_, rfl⟩
  have HL : Hid (L.length = n0 + n1) := by rw [hL, List.length_append, e0, e1]; exact rfl
  rw [← hL] at GL GR ⊢
  have HLe := Hid.intro hL
  clear r0 r1 e0 e1 hL
  go_enter Try.func22, Try.ntmps22
  go_wp2_with (at_make; go_loud (refine wpList_make_own _ rfl _ _ 22 rfl w.heap.size 31 i0 _ 4 Try.underlying22 hi hz0 hz1 .i64 .i64 _ (n0 + n1) rfl rfl (by omega) (by rw [hz2]; omega) (by unfold maxLen; omega) (Nat.le_refl _) ?_))
  intro w1 ho1 hg1
  go_wp2_with fail
  go_loopw [5, 6] (fun sv c wr => ∃ k : Nat, k ≤ n0 ∧ c = .int .i64 k ∧ wr.ownsRow w.heap.size 31 4 sv k (tabS 4 c4 k (L.take k)) ∧ w.grownBy wr none) (fun _ c _ => n0 - (intOf c).toNat)
  case atStart => exact ⟨0, Nat.zero_le _, rfl, ho1, hg1⟩
  case round =>
    obtain ⟨k, hk, rfl, ho, hgr⟩ := hrel
    by_cases hlt : k < n0
    · obtain ⟨b, off, hx, hcell⟩ := R0.out.at (by rw [E0.out]; omega)
      subst hx
      obtain ⟨d0, d1, d2, d3⟩ := hcell k (by rw [E0.out]; exact hlt)
      have x0 := hgr.cell d0 (by simp)
      have x1 := hgr.cell d1 (by simp)
      have x2 := hgr.cell d2 (by simp)
      have x3 := hgr.cell d3 (by simp)
      clear hcell d0 d1 d2 d3
      have hst : tabS 4 c4 (k + 1) (L.take (k + 1)) = tabS 4 c4 k (L.take k) ++ f4 (ga dS l0 k) := by
        rw [take_ga L k (by rw [HL.out]; omega), tabS_app k _ _ (by rw [List.length_take, HL.out]; omega), GL.out k (by rw [E0.out]; exact hlt)]
      have HST := Hid.intro hst
      clear hst
      generalize ga dS l0 k = s at *
      have q1 : (k : Int) < (n0 : Int) := by omega
      go_wp2_with (at_builtin; go_loud (refine wpList_append_app _ rfl _ _ 22 22 rfl w.heap.size 31 i0 _ 4 48 Try.underlying22 hi hz0 hz1 hz2 rfl _ _ _ rfl (ho.alloc _) _ _ _ rfl (src_span wr s) (by unfold maxLen; omega) (by omega) (Nat.le_trans hgr.size (by simp)) ?_))
      intro v1 w2 h1
      have hown : w2.ownsRow w.heap.size 31 4 v1 (k + 1) (tabS 4 c4 (k + 1) (L.take (k + 1))) := by rw [HST.out]; exact h1.own
      have hg2 := grownBy_trans hgr (grownBy_trans (World.grownBy_alloc wr _ _) h1.grown (.inl rfl)) (.inr fun q hq => (ho.lt q hq).1)
      go_wp2
      go_roundw
      case rel => exact ⟨k + 1, by omega, by go_num, hown, hg2⟩
      case measure => simp [intOf]; omega
    · obtain rfl : k = n0 := by omega
      go_wp2_with fail
      go_loopw [5, 7] (fun sv c wr => ∃ j : Nat, j ≤ n1 ∧ c = .int .i64 j ∧ wr.ownsRow w.heap.size 31 4 sv (k + j) (tabS 4 c4 (k + j) (L.take (k + j))) ∧ w.grownBy wr none) (fun _ c _ => n1 - (intOf c).toNat)
      case atStart => exact ⟨0, Nat.zero_le _, rfl, ho, hgr⟩
      case round =>
        clear ho hgr
        obtain ⟨j, hj, rfl, ho, hgr⟩ := hrel
        by_cases hlt1 : j < n1
        · obtain ⟨b, off, hx, hcell⟩ := R1.out.at (by rw [E1.out]; omega)
          subst hx
          obtain ⟨d0, d1, d2, d3⟩ := hcell j (by rw [E1.out]; exact hlt1)
          have x0 := hgr.cell d0 (by simp)
          have x1 := hgr.cell d1 (by simp)
          have x2 := hgr.cell d2 (by simp)
          have x3 := hgr.cell d3 (by simp)
          clear hcell d0 d1 d2 d3
          have hst : tabS 4 c4 (k + (j + 1)) (L.take (k + (j + 1))) = tabS 4 c4 (k + j) (L.take (k + j)) ++ f4 (ga dS l1 j) := by
            have hga := GR.out j
            rw [E0.out] at hga
            rw [← Nat.add_assoc, take_ga L (k + j) (by rw [HL.out]; omega), tabS_app (k + j) _ _ (by rw [List.length_take, HL.out]; omega), hga]
          have HST := Hid.intro hst
          clear hst
          generalize ga dS l1 j = s at *
          have q1 : (j : Int) < (n1 : Int) := by omega
          go_wp2_with (at_builtin; go_loud (refine wpList_append_app _ rfl _ _ 22 22 rfl w.heap.size 31 i0 _ 4 48 Try.underlying22 hi hz0 hz1 hz2 rfl _ _ _ rfl (ho.alloc _) _ _ _ rfl (src_span wr s) (by unfold maxLen; omega) (by omega) (Nat.le_trans hgr.size (by simp)) ?_))
          intro v1 w2 h1
          have hown : w2.ownsRow w.heap.size 31 4 v1 (k + (j + 1)) (tabS 4 c4 (k + (j + 1)) (L.take (k + (j + 1)))) := by rw [HST.out, ← Nat.add_assoc]; exact h1.own
          have hg2 := grownBy_trans hgr (grownBy_trans (World.grownBy_alloc wr _ _) h1.grown (.inl rfl)) (.inr fun q hq => (ho.lt q hq).1)
          go_wp2
          go_roundw
          case rel => exact ⟨j + 1, by omega, by go_num, hown, hg2⟩
          case measure => simp [intOf]; omega
        · obtain rfl : j = n1 := by omega
          rw [show L.take (k + j) = L from by rw [← HL.out]; exact List.take_length] at ho
          obtain ⟨a, cap, rfl, hs⟩ := srow_of ho HL.out (fun q hq => by
            rw [HL.out] at hq
            by_cases hqk : q < k
            · rw [GL.out q (by rw [E0.out]; exact hqk)]
              exact (R0.out.ok q (by rw [E0.out]; exact hqk)).grown hgr
            · have hga := GR.out (q - k)
              rw [E0.out, show k + (q - k) = q by omega] at hga
              rw [hga]
              exact (R1.out.ok (q - k) (by rw [E1.out]; omega)).grown hgr)
          have HS := Hid.intro hs
          clear ho hs
          go_wp2
          go_ret
          exact ⟨a, cap, rfl, HS.out, hgr⟩
end Go.Proofs.Qxb6600061a
