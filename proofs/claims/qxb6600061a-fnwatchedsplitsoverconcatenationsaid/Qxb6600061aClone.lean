/-
  THE WALKS OF cloneStrings (30), cloneBools (31), cloneInt64s (13).
-/
import Derived.Test.Qxb6600061aBase
namespace Go.Proofs.Qxb6600061a
open Go.RowKit

theorem info9 : (Try.prog.info? 9).map (fun i => (i.zero, i.size, i.bytes)) = some (some (.string ByteArray.empty), 1, 16) := by kernel_rfl

set_option maxRecDepth 100000 in
theorem cs_nil (w : World) (cap : Nat) : Calls Try.prog 30 #[.slice none 0 cap] w fun e w' => e = .returned (.slice none 0 0) ∧ w' = w := by
  have hq := fun wx => Lib.run_eql_slice_nil (P := Try.prog) wx 45 9 none 0 cap 0 0 Try.underlying45
  go_enter Try.func30, Try.ntmps30
  go_wp2
  go_ret
  exact ⟨rfl, rfl⟩

set_option maxRecDepth 100000 in
theorem cs_some (w : World) (x : Addr) (cap : Nat) (l : List ByteArray) (hr : Row Value.string ByteArray.empty w (some x) l) (hlen : l.length ≤ 1048576) :
    Calls Try.prog 30 #[.slice (some x) l.length cap] w fun e w' => ∃ v', e = .returned v' ∧ w'.ownsRow w.heap.size 9 1 v' l.length (l.map Value.string) ∧ w.grownBy w' none := by
  obtain ⟨i0, hi, hz0, hz1, hz2⟩ := info_parts info9
  have hq := fun wx => Lib.run_eql_slice_nil (P := Try.prog) wx 45 9 (some x) l.length cap 0 0 Try.underlying45
  obtain ⟨N, hN⟩ : ∃ N, l.length = N := ⟨_, rfl⟩
  rw [hN] at hlen hq ⊢
  have HN : Hid (l.length = N) := hN
  clear hN
  go_enter Try.func30, Try.ntmps30
  go_wp2_with (at_make; go_loud (refine wpList_make_full _ rfl _ _ 45 rfl w.heap.size 9 i0 (.string ByteArray.empty) 1 Try.underlying45 hi hz0 hz1 .i64 .i64 _ _ N rfl rfl rfl rfl (by rw [hz2]; omega) (by unfold maxLen; omega) (Nat.le_refl _) ?_))
  intro w1 ho1 hg1
  have ho1' : w1.ownsRow w.heap.size 9 1 (.slice (some ⟨w.heap.size, 0, none⟩) N N) N (copied Value.string ByteArray.empty l 0) := by rw [copied_zero, HN.out, ← toList_madeCells_one]; simpa using ho1
  clear ho1 hq
  go_wp2_with fail
  go_loopw [4] (fun c wr => ∃ i : Nat, i ≤ N ∧ c = .int .i64 i ∧ wr.ownsRow w.heap.size 9 1 (.slice (some ⟨w.heap.size, 0, none⟩) N N) N (copied Value.string ByteArray.empty l i) ∧ w.grownBy wr none) (fun c _ => N - (intOf c).toNat)
  case atStart => exact ⟨0, Nat.zero_le _, rfl, ho1', hg1⟩
  case round =>
    obtain ⟨i, hi, rfl, hoi, hgi⟩ := hrel
    by_cases hlt : i < N
    · obtain ⟨b, off, hx, hcell⟩ := hr.at (by rw [HN.out]; omega)
      cases hx
      have hx' : wr.cell? ⟨b, off + i, none⟩ = some (Value.string (ga ByteArray.empty l i)) := hgi.cell (hcell i (by rw [HN.out]; exact hlt)) (by simp)
      have hcc := hoi.cellAt i (by omega)
      rw [copied_get _ _ _ _ (by rw [HN.out]; exact hlt)] at hcc
      have hfz := hoi.frozenAt i
      have hst := hoi.stored i (Value.string (ga ByteArray.empty l i))
      rw [copied_step _ _ l i (by rw [HN.out]; exact hlt)] at hst
      clear hcell
      go_wp2
      go_roundw
      case rel => exact ⟨i + 1, by omega, by go_num, hst.1, grownBy_trans hgi hst.2 (.inr fun k hk => by cases hk; exact Nat.le_refl _)⟩
      case measure => simp [intOf]; omega
    · obtain rfl : i = N := by omega
      have hci : copied Value.string ByteArray.empty l i = l.map Value.string := by rw [← HN.out]; exact copied_end _ _ l
      rw [hci] at hoi
      clear hci
      go_wp2
      go_ret
      exact ⟨_, rfl, hoi, hgi⟩

/-- Nil or not. -/
theorem cs_any (w : World) (a : Option Addr) (len cap : Nat) (l : List ByteArray) (h : Row Value.string ByteArray.empty w a l) (hl : l.length = len) (hlen : len ≤ 1048576) :
    Calls Try.prog 30 #[.slice a len cap] w fun e w' => ∃ v', e = .returned v' ∧ w'.ownsRow w.heap.size 9 1 v' len (l.map Value.string) ∧ w.grownBy w' none := by
  subst hl
  cases a with
  | none =>
    obtain rfl := h.nil rfl
    refine (cs_nil w cap).mono ?_
    rintro e w' ⟨rfl, rfl⟩
    exact ⟨_, rfl, World.ownsRow_nil _ _ _ _, World.grownBy.refl _ _⟩
  | some x => exact cs_some w x cap l h hlen

theorem info4 : (Try.prog.info? 4).map (fun i => (i.zero, i.size, i.bytes)) = some (some (.bool false), 1, 1) := by kernel_rfl

set_option maxRecDepth 100000 in
theorem cb_nil (w : World) (cap : Nat) : Calls Try.prog 31 #[.slice none 0 cap] w fun e w' => e = .returned (.slice none 0 0) ∧ w' = w := by
  have hq := fun wx => Lib.run_eql_slice_nil (P := Try.prog) wx 46 4 none 0 cap 0 0 Try.underlying46
  go_enter Try.func31, Try.ntmps31
  go_wp2
  go_ret
  exact ⟨rfl, rfl⟩

set_option maxRecDepth 100000 in
theorem cb_some (w : World) (x : Addr) (cap : Nat) (l : List Bool) (hr : Row Value.bool false w (some x) l) (hlen : l.length ≤ 1048576) :
    Calls Try.prog 31 #[.slice (some x) l.length cap] w fun e w' => ∃ v', e = .returned v' ∧ w'.ownsRow w.heap.size 4 1 v' l.length (l.map Value.bool) ∧ w.grownBy w' none := by
  obtain ⟨i0, hi, hz0, hz1, hz2⟩ := info_parts info4
  have hq := fun wx => Lib.run_eql_slice_nil (P := Try.prog) wx 46 4 (some x) l.length cap 0 0 Try.underlying46
  obtain ⟨N, hN⟩ : ∃ N, l.length = N := ⟨_, rfl⟩
  rw [hN] at hlen hq ⊢
  have HN : Hid (l.length = N) := hN
  clear hN
  go_enter Try.func31, Try.ntmps31
  go_wp2_with (at_make; go_loud (refine wpList_make_full _ rfl _ _ 46 rfl w.heap.size 4 i0 (.bool false) 1 Try.underlying46 hi hz0 hz1 .i64 .i64 _ _ N rfl rfl rfl rfl (by rw [hz2]; omega) (by unfold maxLen; omega) (Nat.le_refl _) ?_))
  intro w1 ho1 hg1
  have ho1' : w1.ownsRow w.heap.size 4 1 (.slice (some ⟨w.heap.size, 0, none⟩) N N) N (copied Value.bool false l 0) := by rw [copied_zero, HN.out, ← toList_madeCells_one]; simpa using ho1
  clear ho1 hq
  go_wp2_with fail
  go_loopw [4] (fun c wr => ∃ i : Nat, i ≤ N ∧ c = .int .i64 i ∧ wr.ownsRow w.heap.size 4 1 (.slice (some ⟨w.heap.size, 0, none⟩) N N) N (copied Value.bool false l i) ∧ w.grownBy wr none) (fun c _ => N - (intOf c).toNat)
  case atStart => exact ⟨0, Nat.zero_le _, rfl, ho1', hg1⟩
  case round =>
    obtain ⟨i, hi, rfl, hoi, hgi⟩ := hrel
    by_cases hlt : i < N
    · obtain ⟨b, off, hx, hcell⟩ := hr.at (by rw [HN.out]; omega)
      cases hx
      have hx' : wr.cell? ⟨b, off + i, none⟩ = some (Value.bool (ga false l i)) := hgi.cell (hcell i (by rw [HN.out]; exact hlt)) (by simp)
      have hcc := hoi.cellAt i (by omega)
      rw [copied_get _ _ _ _ (by rw [HN.out]; exact hlt)] at hcc
      have hfz := hoi.frozenAt i
      have hst := hoi.stored i (Value.bool (ga false l i))
      rw [copied_step _ _ l i (by rw [HN.out]; exact hlt)] at hst
      clear hcell
      go_wp2
      go_roundw
      case rel => exact ⟨i + 1, by omega, by go_num, hst.1, grownBy_trans hgi hst.2 (.inr fun k hk => by cases hk; exact Nat.le_refl _)⟩
      case measure => simp [intOf]; omega
    · obtain rfl : i = N := by omega
      have hci : copied Value.bool false l i = l.map Value.bool := by rw [← HN.out]; exact copied_end _ _ l
      rw [hci] at hoi
      clear hci
      go_wp2
      go_ret
      exact ⟨_, rfl, hoi, hgi⟩

/-- Nil or not. -/
theorem cb_any (w : World) (a : Option Addr) (len cap : Nat) (l : List Bool) (h : Row Value.bool false w a l) (hl : l.length = len) (hlen : len ≤ 1048576) :
    Calls Try.prog 31 #[.slice a len cap] w fun e w' => ∃ v', e = .returned v' ∧ w'.ownsRow w.heap.size 4 1 v' len (l.map Value.bool) ∧ w.grownBy w' none := by
  subst hl
  cases a with
  | none =>
    obtain rfl := h.nil rfl
    refine (cb_nil w cap).mono ?_
    rintro e w' ⟨rfl, rfl⟩
    exact ⟨_, rfl, World.ownsRow_nil _ _ _ _, World.grownBy.refl _ _⟩
  | some x => exact cb_some w x cap l h hlen

theorem info2 : (Try.prog.info? 2).map (fun i => (i.zero, i.size, i.bytes)) = some (some (.int .i64 0), 1, 8) := by kernel_rfl

set_option maxRecDepth 100000 in
theorem ci_nil (w : World) (cap : Nat) : Calls Try.prog 13 #[.slice none 0 cap] w fun e w' => e = .returned (.slice none 0 0) ∧ w' = w := by
  have hq := fun wx => Lib.run_eql_slice_nil (P := Try.prog) wx 23 2 none 0 cap 0 0 Try.underlying23
  go_enter Try.func13, Try.ntmps13
  go_wp2
  go_ret
  exact ⟨rfl, rfl⟩

set_option maxRecDepth 100000 in
theorem ci_some (w : World) (x : Addr) (cap : Nat) (l : List Int) (hr : Row (Value.int .i64) 0 w (some x) l) (hlen : l.length ≤ 1048576) :
    Calls Try.prog 13 #[.slice (some x) l.length cap] w fun e w' => ∃ v', e = .returned v' ∧ w'.ownsRow w.heap.size 2 1 v' l.length (l.map (Value.int .i64)) ∧ w.grownBy w' none := by
  obtain ⟨i0, hi, hz0, hz1, hz2⟩ := info_parts info2
  have hq := fun wx => Lib.run_eql_slice_nil (P := Try.prog) wx 23 2 (some x) l.length cap 0 0 Try.underlying23
  obtain ⟨N, hN⟩ : ∃ N, l.length = N := ⟨_, rfl⟩
  rw [hN] at hlen hq ⊢
  have HN : Hid (l.length = N) := hN
  clear hN
  go_enter Try.func13, Try.ntmps13
  go_wp2_with (at_make; go_loud (refine wpList_make_full _ rfl _ _ 23 rfl w.heap.size 2 i0 (.int .i64 0) 1 Try.underlying23 hi hz0 hz1 .i64 .i64 _ _ N rfl rfl rfl rfl (by rw [hz2]; omega) (by unfold maxLen; omega) (Nat.le_refl _) ?_))
  intro w1 ho1 hg1
  have ho1' : w1.ownsRow w.heap.size 2 1 (.slice (some ⟨w.heap.size, 0, none⟩) N N) N (copied (Value.int .i64) 0 l 0) := by rw [copied_zero, HN.out, ← toList_madeCells_one]; simpa using ho1
  clear ho1 hq
  go_wp2_with fail
  go_loopw [4] (fun c wr => ∃ i : Nat, i ≤ N ∧ c = .int .i64 i ∧ wr.ownsRow w.heap.size 2 1 (.slice (some ⟨w.heap.size, 0, none⟩) N N) N (copied (Value.int .i64) 0 l i) ∧ w.grownBy wr none) (fun c _ => N - (intOf c).toNat)
  case atStart => exact ⟨0, Nat.zero_le _, rfl, ho1', hg1⟩
  case round =>
    obtain ⟨i, hi, rfl, hoi, hgi⟩ := hrel
    by_cases hlt : i < N
    · obtain ⟨b, off, hx, hcell⟩ := hr.at (by rw [HN.out]; omega)
      cases hx
      have hx' : wr.cell? ⟨b, off + i, none⟩ = some ((Value.int .i64) (ga 0 l i)) := hgi.cell (hcell i (by rw [HN.out]; exact hlt)) (by simp)
      have hcc := hoi.cellAt i (by omega)
      rw [copied_get _ _ _ _ (by rw [HN.out]; exact hlt)] at hcc
      have hfz := hoi.frozenAt i
      have hst := hoi.stored i ((Value.int .i64) (ga 0 l i))
      rw [copied_step _ _ l i (by rw [HN.out]; exact hlt)] at hst
      clear hcell
      go_wp2
      go_roundw
      case rel => exact ⟨i + 1, by omega, by go_num, hst.1, grownBy_trans hgi hst.2 (.inr fun k hk => by cases hk; exact Nat.le_refl _)⟩
      case measure => simp [intOf]; omega
    · obtain rfl : i = N := by omega
      have hci : copied (Value.int .i64) 0 l i = l.map (Value.int .i64) := by rw [← HN.out]; exact copied_end _ _ l
      rw [hci] at hoi
      clear hci
      go_wp2
      go_ret
      exact ⟨_, rfl, hoi, hgi⟩

/-- Nil or not. -/
theorem ci_any (w : World) (a : Option Addr) (len cap : Nat) (l : List Int) (h : Row (Value.int .i64) 0 w a l) (hl : l.length = len) (hlen : len ≤ 1048576) :
    Calls Try.prog 13 #[.slice a len cap] w fun e w' => ∃ v', e = .returned v' ∧ w'.ownsRow w.heap.size 2 1 v' len (l.map (Value.int .i64)) ∧ w.grownBy w' none := by
  subst hl
  cases a with
  | none =>
    obtain rfl := h.nil rfl
    refine (ci_nil w cap).mono ?_
    rintro e w' ⟨rfl, rfl⟩
    exact ⟨_, rfl, World.ownsRow_nil _ _ _ _, World.grownBy.refl _ _⟩
  | some x => exact ci_some w x cap l h hlen
end Go.Proofs.Qxb6600061a
