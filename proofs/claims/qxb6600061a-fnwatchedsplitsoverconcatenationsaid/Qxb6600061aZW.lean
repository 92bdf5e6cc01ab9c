/-
  THE WALKS OF ZZWatched (25), eqInt64s (26).
-/
import Derived.Test.Qxb6600061aWatched
namespace Go.Proofs.Qxb6600061a
open Go.RowKit

set_option maxRecDepth 100000 in
set_option maxHeartbeats 1000000 in
theorem zw_any (w : World) (g len cap : Nat) (l : List Sp) (hr : ZRow w g l) (hl : l.length = len) (hlen : len ≤ 2097152) (hsum : wsum l len ≤ 2097152) :
    Calls Try.prog 25 #[.slice (some ⟨g, 0, none⟩) len cap] w fun e w' => ∃ v', e = .returned v' ∧ w'.ownsRow w.heap.size 2 1 v' (W l).length ((W l).map (Value.int .i64)) ∧ w.grownBy w' none := by
  have HL := Hid.intro hl
  have HR := Hid.intro hr
  clear hl hr
  go_enter Try.func25, Try.ntmps25
  go_wp2_with fail
  refine (zi_any w g len cap l HR.out HL.out hlen).mono ?_
  rintro e w1 ⟨rfl, hz, g1⟩
  have HZ := Hid.intro hz
  clear hz
  go_wp2_with fail
  refine (wt_any w1 w.heap.size len len l HZ.out HL.out hlen hsum).mono ?_
  rintro e w2 ⟨v2, rfl, ho, g2⟩
  have ho2 := Hid.intro (own_mono (w := w) g1.size ho)
  have g3 := grownBy_trans g1 g2 (.inl rfl)
  clear ho
  go_wp2
  go_ret
  exact ⟨_, rfl, ho2.out, g3⟩

set_option maxRecDepth 100000 in
theorem eq_none (w : World) (a0 : Option Addr) (c0 : Nat) (a1 : Option Addr) (c1 : Nat) :
    Calls Try.prog 26 #[.slice a0 0 c0, .slice a1 0 c1] w fun r w' => r = .returned (.bool true) ∧ ∃ k, w' = w.drewN k := by
  go_enter Try.func26, Try.ntmps26
  go_wp2_with fail
  go_loop [5] (fun c => c = .int .i64 0) (fun _ => 0)
  case atStart => rfl
  case round =>
    subst hrel
    go_wp2
    go_ret
    exact ⟨rfl, 0, rfl⟩

set_option maxRecDepth 100000 in
theorem eq_some (w : World) (b0 o0 c0 : Nat) (b1 o1 c1 n : Nat) (l : List Int) (hl : l.length = n) (h0 : ∀ j, j < l.length → w.cell? ⟨b0, o0 + j, none⟩ = some (.int .i64 (ga 0 l j))) (h1 : ∀ j, j < l.length → w.cell? ⟨b1, o1 + j, none⟩ = some (.int .i64 (ga 0 l j))) (hn : n ≤ 2097152) :
    Calls Try.prog 26 #[.slice (some ⟨b0, o0, none⟩) n c0, .slice (some ⟨b1, o1, none⟩) n c1] w fun r w' => r = .returned (.bool true) ∧ ∃ k, w' = w.drewN k := by
  have HL := Hid.intro hl
  have H0 := Hid.intro h0
  have H1 := Hid.intro h1
  clear hl h0 h1
  go_enter Try.func26, Try.ntmps26
  go_wp2_with fail
  go_loopw [5] (fun c wr => ∃ i k : Nat, i ≤ n ∧ c = .int .i64 i ∧ wr = w.drewN k) (fun c _ => n - (intOf c).toNat)
  case atStart => exact ⟨0, 0, Nat.zero_le _, rfl, rfl⟩
  case round =>
    obtain ⟨i, k, hi, rfl, rfl⟩ := hrel
    by_cases hlt : i < n
    · have e0 := H0.out i (by rw [HL.out]; exact hlt)
      have e1 := H1.out i (by rw [HL.out]; exact hlt)
      generalize ga 0 l i = z at e0 e1
      have q1 : (i : Int) < (n : Int) := by omega
      go_wp2_with fail
      go_quiet (fail)
      go_wp2
      go_roundw
      case rel => exact ⟨i + 1, _, by omega, by go_num, rfl⟩
      case measure => simp [intOf]; omega
    · obtain rfl : i = n := by omega
      go_wp2
      go_ret
      exact ⟨rfl, _, rfl⟩

theorem eq_any (w : World) (a0 : Option Addr) (c0 : Nat) (a1 : Option Addr) (c1 n : Nat) (l : List Int) (hl : l.length = n) (h0 : Row (Value.int .i64) 0 w a0 l) (h1 : Row (Value.int .i64) 0 w a1 l) (hn : n ≤ 2097152) :
    Calls Try.prog 26 #[.slice a0 n c0, .slice a1 n c1] w fun r w' => r = .returned (.bool true) ∧ ∃ k, w' = w.drewN k := by
  by_cases hp : 0 < l.length
  · obtain ⟨b0, o0, rfl, k0⟩ := h0.at hp
    obtain ⟨b1, o1, rfl, k1⟩ := h1.at hp
    exact eq_some w b0 o0 c0 b1 o1 c1 n l hl k0 k1 hn
  · obtain rfl : n = 0 := by omega
    exact eq_none w a0 c0 a1 c1
end Go.Proofs.Qxb6600061a
