/-
  THE WALK OF zzClone (10): a slice that came in, nil or not, comes back as a row of the call's own, nil where it was nil.
-/
import Derived.Test.Qxb6001432aElem
import Derived.Test.Qxb6001432aPlain2
import Derived.Lib.SliceRun
namespace Go.Proofs.Qxb6001432a
open Go.RowKit

/-- A slice of bytes that came in. -/
structure Inp (w : World) (a : Option Addr) (len : Nat) (l : List Nat) : Prop where
  size : l.length = len
  byte : ∀ x ∈ l, x < 256
  nil : a = none → len = 0
  cell : ∀ x, a = some x → ∀ j, j < len → w.cell? (x.add j) = some (.int .u8 (bt l j : Nat))

/-- The first i bytes copied, the rest zero. -/
def copied (l : List Nat) (i : Nat) : List Nat := l.take i ++ List.replicate (l.length - i) 0
theorem copied_length (l : List Nat) (i : Nat) (h : i ≤ l.length) : (copied l i).length = l.length := by simp [copied]; omega
theorem copied_zero (l : List Nat) : B (copied l 0) = List.replicate l.length (.int .u8 0) := by simp [copied, B]
theorem copied_end (l : List Nat) : copied l l.length = l := by simp [copied]
theorem copied_step (l : List Nat) (i : Nat) (h : i < l.length) : (B (copied l i)).set i (.int .u8 (bt l i : Nat)) = B (copied l (i + 1)) := by
  have e1 : copied l i = l.take i ++ 0 :: List.replicate (l.length - (i + 1)) 0 := by
    rw [copied, show l.length - i = (l.length - (i + 1)) + 1 by omega, List.replicate_succ]
  have e2 : copied l (i + 1) = l.take i ++ bt l i :: List.replicate (l.length - (i + 1)) 0 := by
    have hb : bt l i = l[i] := by simp [bt, List.getD, h]
    rw [hb, copied, List.take_succ_eq_append_getElem h, List.append_assoc]
    rfl
  rw [e1, e2, B_append, B_append, List.set_append_right _ _ (by simp [B]; omega)]
  simp [B, Nat.min_eq_left (Nat.le_of_lt h)]

set_option maxRecDepth 100000 in
theorem clone_nil (w : World) (cap : Nat) : Calls Try.prog 10 #[.slice none 0 cap] w fun e w' => e = .returned (.slice none 0 0) ∧ w' = w := by
  have hq := fun wx => Lib.run_eql_slice_nil (P := Try.prog) wx 22 5 none 0 cap 0 0 Try.underlying22
  go_enter Try.func10, Try.ntmps10
  go_wp2
  go_ret
  exact ⟨rfl, rfl⟩

set_option maxRecDepth 100000 in
theorem clone_some (w : World) (x : Addr) (cap : Nat) (l : List Nat) (hc : ∀ j, j < l.length → w.cell? (x.add j) = some (.int .u8 (bt l j : Nat))) (hlen : l.length ≤ 1048576) :
    Calls Try.prog 10 #[.slice (some x) l.length cap] w fun e w' => ∃ v', e = .returned v' ∧ w'.ownsRow w.heap.size 5 1 v' l.length (B l) ∧ w.grownBy w' none := by
  obtain ⟨i0, hi, hz0, hz1, hz2⟩ := info_parts info5
  have hq := fun wx => Lib.run_eql_slice_nil (P := Try.prog) wx 22 5 (some x) l.length cap 0 0 Try.underlying22
  obtain ⟨N, hN⟩ : ∃ N, l.length = N := ⟨_, rfl⟩
  rw [hN] at hc hlen hq ⊢
  have HN : Hid (l.length = N) := hN
  clear hN
  go_enter Try.func10, Try.ntmps10
  go_wp2_with (at_make; go_loud (refine wpList_make_full _ rfl _ _ 22 rfl w.heap.size 5 i0 (.int .u8 0) 1 Try.underlying22 hi hz0 hz1 .i64 .i64 _ _ N rfl rfl rfl rfl (by rw [hz2]; omega) (by unfold maxLen; omega) (Nat.le_refl _) ?_))
  intro w1 ho1 hg1
  have ho1' : w1.ownsRow w.heap.size 5 1 (.slice (some ⟨w.heap.size, 0, none⟩) N N) N (B (copied l 0)) := by rw [copied_zero, HN.out, ← toList_madeCells_one]; simpa using ho1
  clear ho1 hq
  go_wp2_with fail
  go_loopw [4] (fun c wr => ∃ i : Nat, i ≤ N ∧ c = .int .i64 i ∧ wr.ownsRow w.heap.size 5 1 (.slice (some ⟨w.heap.size, 0, none⟩) N N) N (B (copied l i)) ∧ w.grownBy wr none) (fun c _ => N - (intOf c).toNat)
  case atStart => exact ⟨0, Nat.zero_le _, rfl, ho1', hg1⟩
  case round =>
    obtain ⟨i, hi, rfl, hoi, hgi⟩ := hrel
    by_cases hlt : i < N
    · have hx := hc i hlt
      obtain ⟨b, off, spot⟩ := x
      have hspot : spot = none := by simpa [Addr.add] using World.cell?_spot (hc 0 (by omega))
      subst hspot
      have hx' : wr.cell? ⟨b, off + i, none⟩ = some (.int .u8 (bt l i : Nat)) := hgi.cell (by simpa [Addr.add_lit] using hx) (by simp)
      have hcc := hoi.cellAt i (by omega)
      rw [B_get _ _ (by rw [copied_length _ _ (by have := HN.out; omega), HN.out]; exact hlt)] at hcc
      have hfz := hoi.frozenAt i
      have hst := hoi.stored i (.int .u8 (bt l i : Nat))
      rw [copied_step l i (by rw [HN.out]; exact hlt)] at hst
      clear hx hc
      go_wp2
      go_roundw
      case rel => exact ⟨i + 1, by omega, by go_num, hst.1, grownBy_trans hgi hst.2 (.inr fun k hk => by cases hk; exact Nat.le_refl _)⟩
      case measure => simp [intOf]; omega
    · obtain rfl : i = N := by omega
      have hci : copied l i = l := by rw [← HN.out]; exact copied_end l
      rw [hci] at hoi
      clear hci
      go_wp2
      go_ret
      exact ⟨_, rfl, hoi, hgi⟩

/-- Nil or not. -/
theorem clone_any (w : World) (a : Option Addr) (len cap : Nat) (l : List Nat) (h : Inp w a len l) (hlen : len ≤ 1048576) :
    Calls Try.prog 10 #[.slice a len cap] w fun e w' => ∃ v', e = .returned v' ∧ w'.ownsRow w.heap.size 5 1 v' len (B l) ∧ w.grownBy w' none := by
  have hl := h.size
  cases a with
  | none =>
    have h0 := h.nil rfl
    subst h0
    have hl0 : l = [] := List.eq_nil_of_length_eq_zero hl
    subst hl0
    refine (clone_nil w cap).mono ?_
    rintro e w' ⟨rfl, rfl⟩
    exact ⟨_, rfl, World.ownsRow_nil _ _ _ _, World.grownBy.refl _ _⟩
  | some x =>
    subst hl
    exact clone_some w x cap l (h.cell x rfl) hlen
end Go.Proofs.Qxb6001432a
