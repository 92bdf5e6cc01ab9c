/-
  THE WALKS OF watched (40), ZZWatched (25), eqInt64s (26).
-/
import Derived.Test.Qxb6600061aToZZ
import Derived.Test.Qxb6600061aApp
import Derived.Deep.QuietTactic
import Derived.BigQuiet
namespace Go.Proofs.Qxb6600061a
open Go.RowKit

theorem info2w : (Try.prog.info? 2).map (fun i => (i.zero, i.size, i.bytes)) = some (some (.int .i64 0), 1, 8) := by kernel_rfl

theorem W_step (l : List Sp) (k : Nat) (h : k < l.length) : W (l.take (k + 1)) = W (l.take k) ++ (ga dS l k).wl := by
  rw [take_ga l k h]; simp [W]
theorem W_len (l : List Sp) (k : Nat) (h : k ≤ l.length) (hok : ∀ j, j < l.length → (ga dS l j).wl.length = (ga dS l j).wn) : (W (l.take k)).length = wsum l k := by
  induction k with
  | zero => rfl
  | succ k ih => rw [W_step l k (by omega), List.length_append, ih (by omega), hok k (by omega)]; rfl
theorem wsum_mono (l : List Sp) (j k : Nat) (h : j ≤ k) : wsum l j ≤ wsum l k := by
  induction h with
  | refl => exact Nat.le_refl _
  | step _ ih => exact Nat.le_trans ih (Nat.le_add_right _ _)

theorem ints_one (l : List Int) : ∀ u ∈ l.map (Value.int .i64), u.oneCell' = true := by
  intro u hu
  obtain ⟨_, _, rfl⟩ := List.mem_map.1 hu
  rfl
/-- A span's watch as what is appended. -/
theorem src_watch {w : World} {s : Sp} (h : SOk w s) : Src Try.prog 1 23 (.slice s.wa s.wn s.wc) s.wn (s.wl.map (Value.int .i64)) w := by
  have hl := h.len
  cases ha : s.wa with
  | none =>
    have h0 := h.row.nil ha
    rw [h0] at hl ⊢
    simp only [List.length_nil] at hl
    rw [← hl]
    exact Src.ofNil w Try.underlying23 s.wc
  | some x =>
    refine Src.ofSlice w Try.underlying23 x s.wn s.wc _ (by simp [hl]) (fun j u hu => ?_) (ints_one _)
    have hj : j < s.wl.length := by
      have := (List.getElem?_eq_some_iff.1 hu).1
      simpa using this
    rw [h.row.cell x ha j hj, ← hu]
    simp [ga, List.getD, hj]

set_option maxRecDepth 100000 in
set_option maxHeartbeats 1000000 in
theorem wt_any (w : World) (g len cap : Nat) (l : List Sp) (hr : ZRow w g l) (hl : l.length = len) (hlen : len ≤ 2097152) (hsum : wsum l len ≤ 2097152) :
    Calls Try.prog 40 #[.slice (some ⟨g, 0, none⟩) len cap] w fun e w' => ∃ v', e = .returned v' ∧ w'.ownsRow w.heap.size 2 1 v' (W l).length ((W l).map (Value.int .i64)) ∧ w.grownBy w' none := by
  obtain ⟨i0, hi, hz0, hz1, hz2⟩ := info_parts info2w
  have HL := Hid.intro hl
  have HR := Hid.intro hr
  have HM := Hid.intro (wsum_mono l)
  clear hl hr
  go_enter Try.func40, Try.ntmps40
  go_wp2_with fail
  go_loopw [3, 8] (fun sv c wr => ∃ k : Nat, k ≤ len ∧ c = .int .i64 k ∧ wr.ownsRow w.heap.size 2 1 sv (W (l.take k)).length ((W (l.take k)).map (Value.int .i64)) ∧ w.grownBy wr none) (fun _ c _ => len - (intOf c).toNat)
  case atStart => exact ⟨0, Nat.zero_le _, rfl, World.ownsRow_nil _ _ _ _, World.grownBy.refl _ _⟩
  case round =>
    obtain ⟨k, hk, rfl, ho, hgr⟩ := hrel
    by_cases hlt : k < len
    · obtain ⟨d0, d1, d2, d3, d4⟩ := HR.out.cell k (by rw [HL.out]; exact hlt)
      have e0 := hgr.cell d0 (by simp)
      have e1 := hgr.cell d1 (by simp)
      have e2 := hgr.cell d2 (by simp)
      have e3 := hgr.cell d3 (by simp)
      have e4 := hgr.cell d4 (by simp)
      clear d0 d1 d2 d3 d4
      have hok := HR.out.ok k (by rw [HL.out]; exact hlt)
      have hWl := W_len l k (by rw [HL.out]; omega) (fun j hj => (HR.out.ok j hj).len)
      have hW1 := W_len l (k + 1) (by rw [HL.out]; omega) (fun j hj => (HR.out.ok j hj).len)
      have hstep := W_step l k (by rw [HL.out]; exact hlt)
      have hle1 := HM.out (k + 1) len (by omega)
      have hbd : (W (l.take k)).length + (ga dS l k).wn ≤ 2097152 := by rw [hWl]; show wsum l (k + 1) ≤ _; omega
      have HST := Hid.intro hstep
      have HOK := Hid.intro hok
      clear hWl hW1 hstep hle1 hok
      go_wp2_with (at_builtin; go_loud (refine wpList_append_app _ rfl _ _ 23 23 rfl w.heap.size 2 i0 (.int .i64 0) 1 8 Try.underlying23 hi hz0 hz1 hz2 rfl _ _ _ rfl (ho.alloc _) _ _ _ rfl (src_watch (HOK.out.grown (grownBy_trans hgr (World.grownBy_alloc _ _ none) (.inl rfl)))) (by unfold maxLen; omega) (by omega) (Nat.le_trans hgr.size (by simp)) ?_))
      intro v1 w1 h1
      have hown : w1.ownsRow w.heap.size 2 1 v1 (W (l.take (k + 1))).length ((W (l.take (k + 1))).map (Value.int .i64)) := by
        rw [HST.out, List.length_append, List.map_append, HOK.out.len]; exact h1.own
      have hg1 := grownBy_trans hgr (grownBy_trans (World.grownBy_alloc wr _ _) h1.grown (.inl rfl)) (.inr fun q hq => (ho.lt q hq).1)
      go_wp2
      go_roundw
      case rel => exact ⟨k + 1, by omega, by go_num, hown, hg1⟩
      case measure => simp [intOf]; omega
    · obtain rfl : k = len := by omega
      have hti : l.take k = l := by rw [← HL.out]; exact List.take_length
      rw [hti] at ho
      clear hti
      go_wp2
      go_ret
      exact ⟨_, rfl, ho, hgr⟩
end Go.Proofs.Qxb6600061a
