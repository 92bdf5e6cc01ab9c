/-
  THE WALKS OF THE TWO zzBytes (28, 35), laid by program.
-/
import Derived.Test.Qxb6600061aFits
namespace Go.Proofs.Qxb6600061a
open Go.RowKit

/-- A bool comes back, the world stands; where it is true C holds. -/
def Says (e : Ending) (w' w : World) (C : Prop) : Prop := ∃ r : Bool, e = .returned (.bool r) ∧ w' = w ∧ (r = true → C)
theorem Says.intro {e : Ending} {w' w : World} {C : Prop} (r : Bool) (h1 : e = .returned (.bool r)) (h2 : w' = w) (h3 : r = true → C) : Says e w' w C := ⟨r, h1, h2, h3⟩

set_option maxRecDepth 100000 in
set_option maxHeartbeats 1000000 in
theorem zb28 (w : World) (a0 : Option Addr) (len0 cap0 : Nat) (s0 : List ByteArray) (r0 : Row Value.string ByteArray.empty w a0 s0) (l0 : s0.length = len0) (m0 : len0 ≤ maxLen) (a1 : Option Addr) (len1 cap1 : Nat) (s1 : List ByteArray) (r1 : Row Value.string ByteArray.empty w a1 s1) (l1 : s1.length = len1) (m1 : len1 ≤ maxLen) (a2 : Option Addr) (len2 cap2 : Nat) (m2 : len2 ≤ maxLen) (a3 : Option Addr) (len3 cap3 : Nat) (s3 : List ByteArray) (r3 : Row Value.string ByteArray.empty w a3 s3) (l3 : s3.length = len3) (m3 : len3 ≤ maxLen) :
    Calls Try.prog 28 #[.slice a0 len0 cap0, .slice a1 len1 cap1, .slice a2 len2 cap2, .slice a3 len3 cap3] w fun e w' => Says e w' w (len0 ≤ 1048576 ∧ len1 ≤ 1048576 ∧ len2 ≤ 1048576 ∧ len3 ≤ 1048576) := by
  unfold maxLen at m0 m1 m2 m3
  have R0 := Hid.intro r0
  have L0 := Hid.intro l0
  clear r0 l0
  have R1 := Hid.intro r1
  have L1 := Hid.intro l1
  clear r1 l1
  have R3 := Hid.intro r3
  have L3 := Hid.intro l3
  clear r3 l3
  go_enter Try.func28, Try.ntmps28
  by_cases b0 : len0 ≤ 1048576
  rotate_left
  · have n0 : (1048576 : Int) < (len0 : Int) := by omega
    go_wp2
    (go_ret; exact Says.intro false rfl rfl (fun h => by cases h))
  go_wp2_with fail
  go_loop [9, 10] (fun t c => ∃ (k : Nat) (z : Int), k ≤ len0 ∧ c = .int .i64 k ∧ t = .int .i64 z ∧ 0 ≤ z ∧ z ≤ 1048576) (fun _ c => len0 - (intOf c).toNat)
  case atStart => exact ⟨0, _, Nat.zero_le _, rfl, rfl, by omega, by omega⟩
  case round =>
    obtain ⟨k0, z0, hk0, rfl, rfl, hz0, hy0⟩ := hrel
    by_cases t0 : k0 < len0
    · obtain ⟨b, off, hx, hcell⟩ := R0.out.at (by rw [L0.out]; omega)
      subst hx
      have hx' := hcell k0 (by rw [L0.out]; exact t0)
      clear hcell
      generalize ga ByteArray.empty s0 k0 = sk at hx'
      by_cases u1 : sk.size ≤ 1048576
      · by_cases u3 : z0 + (sk.size : Int) ≤ 1048576
        · go_wp2
          go_round
          case rel => exact ⟨k0 + 1, _, by omega, by go_num, rfl, by omega, by omega⟩
          case measure => simp [intOf]; omega
        · have u4 : (1048576 : Int) < z0 + (sk.size : Int) := by omega
          go_wp2
          (go_ret; exact Says.intro false rfl rfl (fun h => by cases h))
      · have u2 : (1048576 : Int) < (sk.size : Int) := by omega
        go_wp2
        (go_ret; exact Says.intro false rfl rfl (fun h => by cases h))
    · skip
      by_cases b1 : len1 ≤ 1048576
      rotate_left
      · have n1 : (1048576 : Int) < (len1 : Int) := by omega
        go_wp2
        (go_ret; exact Says.intro false rfl rfl (fun h => by cases h))
      by_cases d1 : z0 + (len1 : Int) ≤ 1048576
      rotate_left
      · have n1 : (1048576 : Int) < z0 + (len1 : Int) := by omega
        go_wp2
        (go_ret; exact Says.intro false rfl rfl (fun h => by cases h))
      go_wp2_with fail
      go_loop [9, 11] (fun t c => ∃ (k : Nat) (z : Int), k ≤ len1 ∧ c = .int .i64 k ∧ t = .int .i64 z ∧ 0 ≤ z ∧ z ≤ 1048576) (fun _ c => len1 - (intOf c).toNat)
      case atStart => exact ⟨0, _, Nat.zero_le _, rfl, rfl, by omega, by omega⟩
      case round =>
        obtain ⟨k1, z1, hk1, rfl, rfl, hz1, hy1⟩ := hrel
        by_cases t1 : k1 < len1
        · obtain ⟨b, off, hx, hcell⟩ := R1.out.at (by rw [L1.out]; omega)
          subst hx
          have hx' := hcell k1 (by rw [L1.out]; exact t1)
          clear hcell
          generalize ga ByteArray.empty s1 k1 = sk at hx'
          by_cases u1 : sk.size ≤ 1048576
          · by_cases u3 : z1 + (sk.size : Int) ≤ 1048576
            · go_wp2
              go_round
              case rel => exact ⟨k1 + 1, _, by omega, by go_num, rfl, by omega, by omega⟩
              case measure => simp [intOf]; omega
            · have u4 : (1048576 : Int) < z1 + (sk.size : Int) := by omega
              go_wp2
              (go_ret; exact Says.intro false rfl rfl (fun h => by cases h))
          · have u2 : (1048576 : Int) < (sk.size : Int) := by omega
            go_wp2
            (go_ret; exact Says.intro false rfl rfl (fun h => by cases h))
        · skip
          by_cases b2 : len2 ≤ 1048576
          rotate_left
          · have n2 : (1048576 : Int) < (len2 : Int) := by omega
            go_wp2
            (go_ret; exact Says.intro false rfl rfl (fun h => by cases h))
          by_cases d2 : z1 + (len2 : Int) ≤ 1048576
          rotate_left
          · have n2 : (1048576 : Int) < z1 + (len2 : Int) := by omega
            go_wp2
            (go_ret; exact Says.intro false rfl rfl (fun h => by cases h))
          by_cases b3 : len3 ≤ 1048576
          rotate_left
          · have n3 : (1048576 : Int) < (len3 : Int) := by omega
            go_wp2
            (go_ret; exact Says.intro false rfl rfl (fun h => by cases h))
          by_cases d3 : z1 + (len2 : Int) + (len3 : Int) ≤ 1048576
          rotate_left
          · have n3 : (1048576 : Int) < z1 + (len2 : Int) + (len3 : Int) := by omega
            go_wp2
            (go_ret; exact Says.intro false rfl rfl (fun h => by cases h))
          go_wp2_with fail
          go_loop [9, 12] (fun t c => ∃ (k : Nat) (z : Int), k ≤ len3 ∧ c = .int .i64 k ∧ t = .int .i64 z ∧ 0 ≤ z ∧ z ≤ 1048576) (fun _ c => len3 - (intOf c).toNat)
          case atStart => exact ⟨0, _, Nat.zero_le _, rfl, rfl, by omega, by omega⟩
          case round =>
            obtain ⟨k3, z3, hk3, rfl, rfl, hz3, hy3⟩ := hrel
            by_cases t3 : k3 < len3
            · obtain ⟨b, off, hx, hcell⟩ := R3.out.at (by rw [L3.out]; omega)
              subst hx
              have hx' := hcell k3 (by rw [L3.out]; exact t3)
              clear hcell
              generalize ga ByteArray.empty s3 k3 = sk at hx'
              by_cases u1 : sk.size ≤ 1048576
              · by_cases u3 : z3 + (sk.size : Int) ≤ 1048576
                · go_wp2
                  go_round
                  case rel => exact ⟨k3 + 1, _, by omega, by go_num, rfl, by omega, by omega⟩
                  case measure => simp [intOf]; omega
                · have u4 : (1048576 : Int) < z3 + (sk.size : Int) := by omega
                  go_wp2
                  (go_ret; exact Says.intro false rfl rfl (fun h => by cases h))
              · have u2 : (1048576 : Int) < (sk.size : Int) := by omega
                go_wp2
                (go_ret; exact Says.intro false rfl rfl (fun h => by cases h))
            · skip
              go_wp2
              go_ret
              exact Says.intro true rfl rfl (fun _ => trivial)

set_option maxRecDepth 100000 in
set_option maxHeartbeats 1000000 in
theorem zb35 (w : World) (a0 : Option Addr) (len0 cap0 : Nat) (s0 : List ByteArray) (r0 : Row Value.string ByteArray.empty w a0 s0) (l0 : s0.length = len0) (m0 : len0 ≤ maxLen) (a1 : Option Addr) (len1 cap1 : Nat) (s1 : List ByteArray) (r1 : Row Value.string ByteArray.empty w a1 s1) (l1 : s1.length = len1) (m1 : len1 ≤ maxLen) (a2 : Option Addr) (len2 cap2 : Nat) (s2 : List ByteArray) (r2 : Row Value.string ByteArray.empty w a2 s2) (l2 : s2.length = len2) (m2 : len2 ≤ maxLen) (a3 : Option Addr) (len3 cap3 : Nat) (m3 : len3 ≤ maxLen) :
    Calls Try.prog 35 #[.slice a0 len0 cap0, .slice a1 len1 cap1, .slice a2 len2 cap2, .slice a3 len3 cap3] w fun e w' => Says e w' w (len0 ≤ 1048576 ∧ len1 ≤ 1048576 ∧ len2 ≤ 1048576 ∧ len3 ≤ 1048576) := by
  unfold maxLen at m0 m1 m2 m3
  have R0 := Hid.intro r0
  have L0 := Hid.intro l0
  clear r0 l0
  have R1 := Hid.intro r1
  have L1 := Hid.intro l1
  clear r1 l1
  have R2 := Hid.intro r2
  have L2 := Hid.intro l2
  clear r2 l2
  go_enter Try.func35, Try.ntmps35
  by_cases b0 : len0 ≤ 1048576
  rotate_left
  · have n0 : (1048576 : Int) < (len0 : Int) := by omega
    go_wp2
    (go_ret; exact Says.intro false rfl rfl (fun h => by cases h))
  go_wp2_with fail
  go_loop [9, 10] (fun t c => ∃ (k : Nat) (z : Int), k ≤ len0 ∧ c = .int .i64 k ∧ t = .int .i64 z ∧ 0 ≤ z ∧ z ≤ 1048576) (fun _ c => len0 - (intOf c).toNat)
  case atStart => exact ⟨0, _, Nat.zero_le _, rfl, rfl, by omega, by omega⟩
  case round =>
    obtain ⟨k0, z0, hk0, rfl, rfl, hz0, hy0⟩ := hrel
    by_cases t0 : k0 < len0
    · obtain ⟨b, off, hx, hcell⟩ := R0.out.at (by rw [L0.out]; omega)
      subst hx
      have hx' := hcell k0 (by rw [L0.out]; exact t0)
      clear hcell
      generalize ga ByteArray.empty s0 k0 = sk at hx'
      by_cases u1 : sk.size ≤ 1048576
      · by_cases u3 : z0 + (sk.size : Int) ≤ 1048576
        · go_wp2
          go_round
          case rel => exact ⟨k0 + 1, _, by omega, by go_num, rfl, by omega, by omega⟩
          case measure => simp [intOf]; omega
        · have u4 : (1048576 : Int) < z0 + (sk.size : Int) := by omega
          go_wp2
          (go_ret; exact Says.intro false rfl rfl (fun h => by cases h))
      · have u2 : (1048576 : Int) < (sk.size : Int) := by omega
        go_wp2
        (go_ret; exact Says.intro false rfl rfl (fun h => by cases h))
    · skip
      by_cases b1 : len1 ≤ 1048576
      rotate_left
      · have n1 : (1048576 : Int) < (len1 : Int) := by omega
        go_wp2
        (go_ret; exact Says.intro false rfl rfl (fun h => by cases h))
      by_cases d1 : z0 + (len1 : Int) ≤ 1048576
      rotate_left
      · have n1 : (1048576 : Int) < z0 + (len1 : Int) := by omega
        go_wp2
        (go_ret; exact Says.intro false rfl rfl (fun h => by cases h))
      go_wp2_with fail
      go_loop [9, 11] (fun t c => ∃ (k : Nat) (z : Int), k ≤ len1 ∧ c = .int .i64 k ∧ t = .int .i64 z ∧ 0 ≤ z ∧ z ≤ 1048576) (fun _ c => len1 - (intOf c).toNat)
      case atStart => exact ⟨0, _, Nat.zero_le _, rfl, rfl, by omega, by omega⟩
      case round =>
        obtain ⟨k1, z1, hk1, rfl, rfl, hz1, hy1⟩ := hrel
        by_cases t1 : k1 < len1
        · obtain ⟨b, off, hx, hcell⟩ := R1.out.at (by rw [L1.out]; omega)
          subst hx
          have hx' := hcell k1 (by rw [L1.out]; exact t1)
          clear hcell
          generalize ga ByteArray.empty s1 k1 = sk at hx'
          by_cases u1 : sk.size ≤ 1048576
          · by_cases u3 : z1 + (sk.size : Int) ≤ 1048576
            · go_wp2
              go_round
              case rel => exact ⟨k1 + 1, _, by omega, by go_num, rfl, by omega, by omega⟩
              case measure => simp [intOf]; omega
            · have u4 : (1048576 : Int) < z1 + (sk.size : Int) := by omega
              go_wp2
              (go_ret; exact Says.intro false rfl rfl (fun h => by cases h))
          · have u2 : (1048576 : Int) < (sk.size : Int) := by omega
            go_wp2
            (go_ret; exact Says.intro false rfl rfl (fun h => by cases h))
        · skip
          by_cases b2 : len2 ≤ 1048576
          rotate_left
          · have n2 : (1048576 : Int) < (len2 : Int) := by omega
            go_wp2
            (go_ret; exact Says.intro false rfl rfl (fun h => by cases h))
          by_cases d2 : z1 + (len2 : Int) ≤ 1048576
          rotate_left
          · have n2 : (1048576 : Int) < z1 + (len2 : Int) := by omega
            go_wp2
            (go_ret; exact Says.intro false rfl rfl (fun h => by cases h))
          go_wp2_with fail
          go_loop [9, 12] (fun t c => ∃ (k : Nat) (z : Int), k ≤ len2 ∧ c = .int .i64 k ∧ t = .int .i64 z ∧ 0 ≤ z ∧ z ≤ 1048576) (fun _ c => len2 - (intOf c).toNat)
          case atStart => exact ⟨0, _, Nat.zero_le _, rfl, rfl, by omega, by omega⟩
          case round =>
            obtain ⟨k2, z2, hk2, rfl, rfl, hz2, hy2⟩ := hrel
            by_cases t2 : k2 < len2
            · obtain ⟨b, off, hx, hcell⟩ := R2.out.at (by rw [L2.out]; omega)
              subst hx
              have hx' := hcell k2 (by rw [L2.out]; exact t2)
              clear hcell
              generalize ga ByteArray.empty s2 k2 = sk at hx'
              by_cases u1 : sk.size ≤ 1048576
              · by_cases u3 : z2 + (sk.size : Int) ≤ 1048576
                · go_wp2
                  go_round
                  case rel => exact ⟨k2 + 1, _, by omega, by go_num, rfl, by omega, by omega⟩
                  case measure => simp [intOf]; omega
                · have u4 : (1048576 : Int) < z2 + (sk.size : Int) := by omega
                  go_wp2
                  (go_ret; exact Says.intro false rfl rfl (fun h => by cases h))
              · have u2 : (1048576 : Int) < (sk.size : Int) := by omega
                go_wp2
                (go_ret; exact Says.intro false rfl rfl (fun h => by cases h))
            · skip
              by_cases b3 : len3 ≤ 1048576
              rotate_left
              · have n3 : (1048576 : Int) < (len3 : Int) := by omega
                go_wp2
                (go_ret; exact Says.intro false rfl rfl (fun h => by cases h))
              by_cases d3 : z2 + (len3 : Int) ≤ 1048576
              rotate_left
              · have n3 : (1048576 : Int) < z2 + (len3 : Int) := by omega
                go_wp2
                (go_ret; exact Says.intro false rfl rfl (fun h => by cases h))
              go_wp2
              go_ret
              exact Says.intro true rfl rfl (fun _ => trivial)
end Go.Proofs.Qxb6600061a
