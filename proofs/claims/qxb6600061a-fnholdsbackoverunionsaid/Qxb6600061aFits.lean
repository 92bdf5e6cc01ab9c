/-
  THE WALKS OF strBytes (41), holdFits (29).
-/
import Derived.Test.Qxb6600061aBuild
namespace Go.Proofs.Qxb6600061a
open Go.RowKit

set_option maxRecDepth 100000 in
theorem sb_any (w : World) (a : Option Addr) (len cap : Nat) (ss : List ByteArray) (hr : Row Value.string ByteArray.empty w a ss) (hl : ss.length = len) (hlen : len ≤ 1048576) (start : Int) (h0 : 0 ≤ start) (h1 : start ≤ 100000000000000) :
    Calls Try.prog 41 #[.slice a len cap, .int .i64 start] w fun e w' => ∃ t : Int, e = .returned (.int .i64 t) ∧ 0 ≤ t ∧ t ≤ start + 1200000000000 ∧ w' = w := by
  have HL := Hid.intro hl
  have HR := Hid.intro hr
  clear hl hr
  go_enter Try.func41, Try.ntmps41
  go_wp2_with fail
  go_loop [5, 6] (fun t c => ∃ (k : Nat) (z : Int), k ≤ len ∧ c = .int .i64 k ∧ t = .int .i64 z ∧ 0 ≤ z ∧ z ≤ start + (k : Int) * 1048592) (fun _ c => len - (intOf c).toNat)
  case atStart => exact ⟨0, start, Nat.zero_le _, rfl, rfl, h0, by omega⟩
  case round =>
    obtain ⟨k, z, hk, rfl, rfl, hz0, hz1⟩ := hrel
    by_cases hlt : k < len
    · obtain ⟨b, off, hx, hcell⟩ := HR.out.at (by rw [HL.out]; omega)
      subst hx
      have hx' := hcell k (by rw [HL.out]; exact hlt)
      clear hcell
      generalize ga ByteArray.empty ss k = sk at hx'
      by_cases u1 : sk.size ≤ 1048576
      · by_cases u3 : z + (16 + (sk.size : Int)) ≤ 1048576
        · go_wp2
          go_round
          case rel => exact ⟨k + 1, _, by omega, by go_num, rfl, by omega, by omega⟩
          case measure => simp [intOf]; omega
        · have u4 : (1048576 : Int) < z + (16 + (sk.size : Int)) := by omega
          go_wp2
          go_ret
          exact ⟨_, rfl, by omega, by omega, rfl⟩
      · have u2 : (1048576 : Int) < (sk.size : Int) := by omega
        go_wp2
        go_ret
        exact ⟨_, rfl, by omega, by omega, rfl⟩
    · go_wp2
      go_ret
      exact ⟨z, rfl, hz0, by omega, rfl⟩

set_option maxRecDepth 100000 in
theorem hf_any (w : World) (a0 : Option Addr) (n0 c0 : Nat) (s0 : List ByteArray) (r0 : Row Value.string ByteArray.empty w a0 s0) (l0 : s0.length = n0) (b0 : n0 ≤ 1048576)
    (a1 : Option Addr) (n1 c1 : Nat) (s1 : List ByteArray) (r1 : Row Value.string ByteArray.empty w a1 s1) (l1 : s1.length = n1) (b1 : n1 ≤ 1048576)
    (a2 : Option Addr) (n2 c2 : Nat) (s2 : List ByteArray) (r2 : Row Value.string ByteArray.empty w a2 s2) (l2 : s2.length = n2) (b2 : n2 ≤ 1048576)
    (a3 : Option Addr) (n3 c3 : Nat) (b3 : n3 ≤ 1048576) :
    Calls Try.prog 29 #[.slice a0 n0 c0, .slice a1 n1 c1, .slice a2 n2 c2, .slice a3 n3 c3, .slice none 0 0] w fun e w' => ∃ r, e = .returned (.bool r) ∧ w' = w := by
  go_enter Try.func29, Try.ntmps29
  go_wp2_with fail
  refine (sb_any w a0 n0 c0 s0 r0 l0 b0 _ (by omega) (by omega)).mono ?_
  rintro e w1 ⟨t1, rfl, h1, h1', rfl⟩
  go_wp2_with fail
  refine (sb_any w1 a1 n1 c1 s1 r1 l1 b1 t1 (by omega) (by omega)).mono ?_
  rintro e w2 ⟨t2, rfl, h2, h2', rfl⟩
  go_wp2_with fail
  refine (sb_any w2 a2 n2 c2 s2 r2 l2 b2 t2 (by omega) (by omega)).mono ?_
  rintro e w3 ⟨t3, rfl, h3, h3', rfl⟩
  go_wp2
  go_ret
  exact ⟨_, rfl, rfl⟩
end Go.Proofs.Qxb6600061a
