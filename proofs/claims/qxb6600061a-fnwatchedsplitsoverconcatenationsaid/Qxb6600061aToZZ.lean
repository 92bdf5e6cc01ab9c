/-
  THE WALKS OF toZZ (15) AND zzIn (39).
-/
import Derived.Test.Qxb6600061aTab
import Derived.RegionTactic
import Derived.BigRegion
namespace Go.Proofs.Qxb6600061a
open Go.RowKit

theorem info35 : (Try.prog.info? 35).map (fun i => (i.zero, i.size, i.bytes)) = some (some (.agg #[.int .i64 0, .int .i64 0, .map none, .int .i64 0, .slice none 0 0]), 5, 56) := by kernel_rfl
theorem info64 : (Try.prog.info? 64).map (fun i => (i.zero, i.size, i.bytes)) = some (some (.agg #[.int .i64 0, .int .i64 0, .map none, .int .i64 0, .slice none 0 0]), 5, 56) := by kernel_rfl

set_option maxRecDepth 100000 in
set_option maxHeartbeats 1000000 in
theorem tz_any (w : World) (a : Option Addr) (len cap : Nat) (l : List Sp) (hr : SRow w a l) (hl : l.length = len) (hlen : len ≤ 2097152) :
    Calls Try.prog 15 #[.slice a len cap] w fun e w' => e = .returned (.slice (some ⟨w.heap.size, 0, none⟩) len len) ∧ ZRow w' w.heap.size l ∧ w.grownBy w' none := by
  obtain ⟨i0, hi, hz0, hz1, hz2⟩ := info_parts info35
  have HL := Hid.intro hl
  have HR := Hid.intro hr
  clear hl hr
  go_enter Try.func15, Try.ntmps15
  go_wp2_with (at_make; go_loud (refine wpList_make_full _ rfl _ _ 27 rfl w.heap.size 35 i0 _ 5 Try.underlying27 hi hz0 hz1 .i64 .i64 _ _ len rfl rfl rfl rfl (by rw [hz2]; omega) (by unfold maxLen; omega) (Nat.le_refl _) ?_))
  intro w1 ho1 hg1
  have ho1' : w1.ownsRow w.heap.size 35 5 (.slice (some ⟨w.heap.size, 0, none⟩) len len) len (tabS 5 c5 len (l.take 0)) := by
    rw [List.take_zero, ← made_tab 5 c5 len #[.int .i64 0, .int .i64 0, .map none, .int .i64 0, .slice none 0 0] rfl (by omega) (fun q hq => by
      obtain rfl | rfl | rfl | rfl | rfl : q = 0 ∨ q = 1 ∨ q = 2 ∨ q = 3 ∨ q = 4 := by omega
      all_goals rfl)]
    exact ho1
  clear ho1
  go_wp2_with fail
  go_loopw [4] (fun c wr => ∃ i : Nat, i ≤ len ∧ c = .int .i64 i ∧ wr.ownsRow w.heap.size 35 5 (.slice (some ⟨w.heap.size, 0, none⟩) len len) len (tabS 5 c5 len (l.take i)) ∧ w.grownBy wr none) (fun c _ => len - (intOf c).toNat)
  case atStart => exact ⟨0, Nat.zero_le _, rfl, ho1', hg1⟩
  case round =>
    obtain ⟨i, hi, rfl, hoi, hgi⟩ := hrel
    by_cases hlt : i < len
    · obtain ⟨b, off, hx, hcell⟩ := HR.out.at (by rw [HL.out]; omega)
      subst hx
      obtain ⟨d0, d1, d2, d3⟩ := hcell i (by rw [HL.out]; exact hlt)
      have e0 := hgi.cell d0 (by simp)
      have e1 := hgi.cell d1 (by simp)
      have e2 := hgi.cell d2 (by simp)
      have e3 := hgi.cell d3 (by simp)
      have at_ : ∀ q, q < 5 → wr.cell? ⟨w.heap.size, i * 5 + q, none⟩ = some (c5 (ga dS (l.take i) i) q) := fun q hq => by
        rw [hoi.cellAt (i * 5 + q) (by omega)]; exact tabS_at 5 c5 len _ i q (by omega) hq
      have f0 := at_ 0 (by omega)
      rw [Nat.add_zero] at f0
      have f1 := at_ 1 (by omega)
      have f2 := at_ 2 (by omega)
      have f3 := at_ 3 (by omega)
      have f4 := at_ 4 (by omega)
      have z0 := hoi.frozenAt (i * 5)
      have z1 := hoi.frozenAt (i * 5 + 1)
      have z2 := hoi.frozenAt (i * 5 + 2)
      have z3 := hoi.frozenAt (i * 5 + 3)
      have z4 := hoi.frozenAt (i * 5 + 4)
      have q1 : (i : Int) < (len : Int) := by omega
      have hst := stored5 hoi (i * 5) (c5 (ga dS l i) 0) (c5 (ga dS l i) 1) (c5 (ga dS l i) 2) (c5 (ga dS l i) 3) (c5 (ga dS l i) 4)
      rw [tab5_step c5 len i (l.take i) (ga dS l i) (by rw [List.length_take, HL.out]; omega), ← take_ga l i (by rw [HL.out]; exact hlt)] at hst
      have HST := Hid.intro hst
      clear hcell d0 d1 d2 d3 at_ hst
      go_wp2_with fail
      go_big_region
      go_wp2
      go_roundw
      case rel => exact ⟨i + 1, by omega, by go_num, HST.out.1.drew, grownBy_trans hgi (grown_drew HST.out.2) (.inr fun k hk => by cases hk; exact Nat.le_refl _)⟩
      case measure => simp [intOf]; omega
    · obtain rfl : i = len := by omega
      have hti : l.take i = l := by rw [← HL.out]; exact List.take_length
      rw [hti] at hoi
      have hz := ZRow.of_own hoi HL.out (fun j hj => (HR.out.ok j hj).grown hgi)
      clear hti
      go_wp2
      go_ret
      exact ⟨rfl, hz, hgi⟩

set_option maxRecDepth 100000 in
set_option maxHeartbeats 1000000 in
theorem zi_any (w : World) (g0 len cap : Nat) (l : List Sp) (hr : ZRow w g0 l) (hl : l.length = len) (hlen : len ≤ 2097152) :
    Calls Try.prog 39 #[.slice (some ⟨g0, 0, none⟩) len cap] w fun e w' => e = .returned (.slice (some ⟨w.heap.size, 0, none⟩) len len) ∧ ZRow w' w.heap.size l ∧ w.grownBy w' none := by
  obtain ⟨i0, hi, hz0, hz1, hz2⟩ := info_parts info64
  have hq := fun wx => Lib.run_eql_slice_nil (P := Try.prog) wx 27 35 (some ⟨g0, 0, none⟩) len cap 0 0 Try.underlying27
  have HL := Hid.intro hl
  have HR := Hid.intro hr
  clear hl hr
  go_enter Try.func39, Try.ntmps39
  go_wp2_with (at_make; go_loud (refine wpList_make_full _ rfl _ _ 57 rfl w.heap.size 64 i0 _ 5 Try.underlying57 hi hz0 hz1 .i64 .i64 _ _ len rfl rfl rfl rfl (by rw [hz2]; omega) (by unfold maxLen; omega) (Nat.le_refl _) ?_))
  intro w1 ho1 hg1
  have ho1' : w1.ownsRow w.heap.size 64 5 (.slice (some ⟨w.heap.size, 0, none⟩) len len) len (tabS 5 c5 len (l.take 0)) := by
    rw [List.take_zero, ← made_tab 5 c5 len #[.int .i64 0, .int .i64 0, .map none, .int .i64 0, .slice none 0 0] rfl (by omega) (fun q hq => by
      obtain rfl | rfl | rfl | rfl | rfl : q = 0 ∨ q = 1 ∨ q = 2 ∨ q = 3 ∨ q = 4 := by omega
      all_goals rfl)]
    exact ho1
  clear ho1 hq
  go_wp2_with fail
  go_loopw [4] (fun c wr => ∃ i : Nat, i ≤ len ∧ c = .int .i64 i ∧ wr.ownsRow w.heap.size 64 5 (.slice (some ⟨w.heap.size, 0, none⟩) len len) len (tabS 5 c5 len (l.take i)) ∧ w.grownBy wr none) (fun c _ => len - (intOf c).toNat)
  case atStart => exact ⟨0, Nat.zero_le _, rfl, ho1', hg1⟩
  case round =>
    obtain ⟨i, hi, rfl, hoi, hgi⟩ := hrel
    by_cases hlt : i < len
    · obtain ⟨d0, d1, d2, d3, d4⟩ := HR.out.cell i (by rw [HL.out]; exact hlt)
      have e0 := hgi.cell d0 (by simp)
      have e1 := hgi.cell d1 (by simp)
      have e2 := hgi.cell d2 (by simp)
      have e3 := hgi.cell d3 (by simp)
      have e4 := hgi.cell d4 (by simp)
      have at_ : ∀ q, q < 5 → wr.cell? ⟨w.heap.size, i * 5 + q, none⟩ = some (c5 (ga dS (l.take i) i) q) := fun q hq => by
        rw [hoi.cellAt (i * 5 + q) (by omega)]; exact tabS_at 5 c5 len _ i q (by omega) hq
      have f0 := at_ 0 (by omega)
      rw [Nat.add_zero] at f0
      have f1 := at_ 1 (by omega)
      have f2 := at_ 2 (by omega)
      have f3 := at_ 3 (by omega)
      have f4 := at_ 4 (by omega)
      have z0 := hoi.frozenAt (i * 5)
      have z1 := hoi.frozenAt (i * 5 + 1)
      have z2 := hoi.frozenAt (i * 5 + 2)
      have z3 := hoi.frozenAt (i * 5 + 3)
      have z4 := hoi.frozenAt (i * 5 + 4)
      have q1 : (i : Int) < (len : Int) := by omega
      have hst := stored5 hoi (i * 5) (c5 (ga dS l i) 0) (c5 (ga dS l i) 1) (c5 (ga dS l i) 2) (c5 (ga dS l i) 3) (c5 (ga dS l i) 4)
      rw [tab5_step c5 len i (l.take i) (ga dS l i) (by rw [List.length_take, HL.out]; omega), ← take_ga l i (by rw [HL.out]; exact hlt)] at hst
      have HST := Hid.intro hst
      clear d0 d1 d2 d3 d4 at_ hst
      go_wp2_with fail
      go_big_region
      go_wp2
      go_roundw
      case rel => exact ⟨i + 1, by omega, by go_num, HST.out.1.drew, grownBy_trans hgi (grown_drew HST.out.2) (.inr fun k hk => by cases hk; exact Nat.le_refl _)⟩
      case measure => simp [intOf]; omega
    · obtain rfl : i = len := by omega
      have hti : l.take i = l := by rw [← HL.out]; exact List.take_length
      rw [hti] at hoi
      have hz := ZRow.of_own hoi HL.out (fun j hj => (HR.out.ok j hj).grown hgi)
      clear hti
      go_wp2
      go_ret
      exact ⟨rfl, hz, hgi⟩
end Go.Proofs.Qxb6600061a
