/-
  THE WALKS OF zzSameBytes (12) AND zzInt (14).
-/
import Derived.Test.Qxb6001432aRead
import Derived.Test.Qxb6001432aPlain3
namespace Go.Proofs.Qxb6001432a
open Go.RowKit

set_option maxRecDepth 100000 in
theorem same_none (w : World) (bo : Option Addr) (n cap : Nat) (s : Nat) (ao : Option Addr) (cp : Nat) (hs : s ≤ n) :
    Calls Try.prog 12 #[.slice bo n cap, .int .i64 s, .int .i64 s, .slice ao 0 cp] w fun r w' => r = .returned (.bool true) ∧ ∃ k, w' = w.drewN k := by
  go_enter Try.func12, Try.ntmps12
  go_wp2_with fail
  go_loop [9] (fun c => c = .int .i64 0) (fun _ => 0)
  case atStart => rfl
  case round =>
    subst hrel
    go_wp2
    go_ret
    exact ⟨rfl, 0, rfl⟩

set_option maxRecDepth 100000 in
theorem same_some (w : World) (g n cap : Nat) (l : List Nat) (hb : Buf w g n l) (s e : Nat) (g2 m cp : Nat) (c : List Nat) (hc : Buf w g2 m c) (hse : s + m = e) (hen : e ≤ n) (hn : n ≤ 1073741824)
    (heq : ∀ j, j < m → bt l (s + j) = bt c j) :
    Calls Try.prog 12 #[.slice (some ⟨g, 0, none⟩) n cap, .int .i64 s, .int .i64 e, .slice (some ⟨g2, 0, none⟩) m cp] w fun r w' => r = .returned (.bool true) ∧ ∃ k, w' = w.drewN k := by
  subst hse
  go_enter Try.func12, Try.ntmps12
  go_wp2_with fail
  go_loopw [9] (fun c wr => ∃ i k : Nat, i ≤ m ∧ c = .int .i64 i ∧ wr = w.drewN k) (fun c _ => m - (intOf c).toNat)
  case atStart => exact ⟨0, 0, Nat.zero_le _, rfl, rfl⟩
  case round =>
    obtain ⟨i, k, hi, rfl, rfl⟩ := hrel
    by_cases hlt : i < m
    · have c1 := hb.cell (s + i) (by omega)
      have c2 := hc.cell i hlt
      rw [heq i hlt] at c1
      have q1 : (s : Int) + (i : Int) < (n : Int) := by omega
      have q2 : (i : Int) < (m : Int) := by omega
      clear heq
      go_wp2_with fail
      go_quiet (fail)
      go_wp2
      go_roundw
      case rel => exact ⟨i + 1, _, by omega, by go_num, rfl⟩
      case measure => simp [intOf]; omega
    · obtain rfl : i = m := by omega
      clear heq
      go_wp2
      go_ret
      exact ⟨rfl, _, rfl⟩

/-- 'want' is nil, or a row of the call's own. -/
theorem same_any (w : World) (g n cap : Nat) (l : List Nat) (hb : Buf w g n l) (s e : Nat) (s' e' : Int) (hs : s' = (s : Int)) (he : e' = (e : Int)) (b2 : Nat) (u : Value) (m : Nat) (c : List Nat)
    (hu : w.ownsRow b2 5 1 u m (B c)) (hcb : ∀ x ∈ c, x < 256) (hse : s + m = e) (hen : e ≤ n) (hn : n ≤ 1073741824) (heq : ∀ j, j < m → bt l (s + j) = bt c j) :
    Calls Try.prog 12 #[.slice (some ⟨g, 0, none⟩) n cap, .int .i64 s', .int .i64 e', u] w fun r w' => r = .returned (.bool true) ∧ ∃ k, w' = w.drewN k := by
  subst hs; subst he
  rcases hu.2 with ⟨rfl, rfl⟩ | ⟨g2, cp, cur, rfl, _⟩
  · obtain rfl : e = s := by omega
    exact same_none w _ n cap e _ 0 hen
  · exact same_some w g n cap l hb s e g2 m cp c (Buf.of_own hu hcb) hse hen hn heq

set_option maxRecDepth 100000 in
theorem int_any (w : World) (g n cap : Nat) (l : List Nat) (hb : Buf w g n l) (x : Int) (h0 : -9223372036854775808 ≤ x) (h1 : x ≤ 9223372036854775807) (s : Nat) (s' e' : Int) (hs : s' = (s : Int)) (he : e' = (s : Int) + (ilen x : Int))
    (hen : s + ilen x ≤ n) (hn : n ≤ 1073741824) (heq : ∀ j, j < ilen x → bt l (s + j) = ib x (ilen x) j) :
    Calls Try.prog 14 #[.slice (some ⟨g, 0, none⟩) n cap, .int .i64 s', .int .i64 e'] w fun r w' => r = .returned (.tuple #[.int .i64 x, .bool true]) ∧ w' = w := by
  subst hs; subst he
  have hbd := ilen_bd x
  have hf := vk_first x h0 h1
  have hend := vk_end x (ilen x)
  have hst := vk_step x (ilen x)
  have hsm := vk_small x (ilen x)
  have hcell : ∀ j, j < ilen x → w.cell? ⟨g, s + j, none⟩ = some (.int .u8 (ib x (ilen x) j : Nat)) := fun j hj => by rw [← heq j hj]; exact hb.cell _ (by omega)
  have hlt := ib_lt x (ilen x)
  have c0 := hcell 0 (by omega)
  rw [Nat.add_zero] at c0
  generalize ilen x = N at *
  have l0 := hlt 0
  have HE : Hid (vk x N N = x) := hend
  have HS : Hid (∀ k, k < N → vk x N k * 256 + (ib x N k : Nat) = vk x N (k + 1)) := hst
  have HM : Hid (∀ k : Nat, k < N → -36028797018963968 ≤ vk x N k ∧ vk x N k < 36028797018963968) := fun k hk => hsm k hk h0 h1
  have HC : Hid (∀ j, j < N → w.cell? ⟨g, s + j, none⟩ = some (.int .u8 (ib x N j : Nat))) := hcell
  have HL : Hid (∀ j, ib x N j < 256) := hlt
  clear hend hst hsm hcell hlt heq
  rcases hf with ⟨hf1, hf2⟩ | ⟨hf1, hf2⟩
  all_goals
    have HF := id (α := Hid (vk x N 0 = _)) hf2
    clear hf2
    go_enter Try.func14, Try.ntmps14
    go_wp2_with fail
    go_loop [9, 10] (fun v i => ∃ k : Nat, k ≤ N ∧ i = .int .i64 ((s : Int) + (k : Int)) ∧ v = .int .i64 (vk x N k)) (fun _ i => N + s - (intOf i).toNat)
    case atStart => exact ⟨0, Nat.zero_le _, by simp, by rw [HF.out]⟩
    case round =>
      obtain ⟨k, hk, rfl, rfl⟩ := hrel
      by_cases hlt : k < N
      · have c1 := HC.out k hlt
        have st := HS.out k hlt
        have sm := HM.out k hlt
        have lb := HL.out k
        have hor := or_i64 (vk x N k) (ib x N k : Nat) (by omega) (by omega) sm.1 sm.2
        rw [st] at hor
        obtain ⟨sm1, sm2⟩ := sm
        have HT : Hid (vk x N k * 256 + (ib x N k : Nat) = vk x N (k + 1)) := st
        clear st
        have q1 : (s : Int) + (k : Int) < (n : Int) := by omega
        go_wp2
        go_round
        case rel => exact ⟨k + 1, by omega, by go_num, rfl⟩
        case measure => simp [intOf]; omega
      · obtain rfl : k = N := by omega
        rw [HE.out]
        go_wp2
        go_ret2
        exact ⟨rfl, rfl⟩
end Go.Proofs.Qxb6001432a
