/-
  THE WALKS OF spansBytes (36), splitFits (21), zzBytes (24).
-/
import Derived.Test.Qxb6600061aSpan
namespace Go.Proofs.Qxb6600061a
open Go.RowKit

set_option maxRecDepth 100000 in
theorem spb_any (w : World) (a : Option Addr) (len cap : Nat) (l : List Sp) (hr : SRow w a l) (hl : l.length = len) (hlen : len ≤ 1048576) (start : Int) (h0 : 0 ≤ start) (h1 : start ≤ 100000000000000) :
    Calls Try.prog 36 #[.slice a len cap, .int .i64 start] w fun e w' => ∃ t : Int, e = .returned (.int .i64 t) ∧ 0 ≤ t ∧ t ≤ start + 12000000000000 ∧ w' = w := by
  have HL := Hid.intro hl
  have HR := Hid.intro hr
  clear hl hr
  go_enter Try.func36, Try.ntmps36
  go_wp2_with fail
  go_loop [5, 6] (fun t c => ∃ (k : Nat) (z : Int), k ≤ len ∧ c = .int .i64 k ∧ t = .int .i64 z ∧ 0 ≤ z ∧ z ≤ start + (k : Int) * 10485760) (fun _ c => len - (intOf c).toNat)
  case atStart => exact ⟨0, start, Nat.zero_le _, rfl, rfl, h0, by omega⟩
  case round =>
    obtain ⟨k, z, hk, rfl, rfl, hz0, hz1⟩ := hrel
    by_cases hlt : k < len
    · obtain ⟨b, off, hx, hcell⟩ := HR.out.at (by rw [HL.out]; omega)
      subst hx
      have hx' := (hcell k (by rw [HL.out]; exact hlt)).2.2.2
      clear hcell
      generalize (ga dS l k).wn = m at hx'
      generalize (ga dS l k).wa = ma at hx'
      generalize (ga dS l k).wc = mc at hx'
      by_cases u1 : m ≤ 1048576
      · by_cases u3 : z + (48 + 8 * (m : Int)) ≤ 1048576
        · go_wp2
          go_round
          case rel => exact ⟨k + 1, _, by omega, by go_num, rfl, by omega, by omega⟩
          case measure => simp [intOf]; omega
        · have u4 : (1048576 : Int) < z + (48 + 8 * (m : Int)) := by omega
          go_wp2
          go_ret
          exact ⟨_, rfl, by omega, by omega, rfl⟩
      · have u2 : (1048576 : Int) < (m : Int) := by omega
        go_wp2
        go_ret
        exact ⟨_, rfl, by omega, by omega, rfl⟩
    · go_wp2
      go_ret
      exact ⟨z, rfl, hz0, by omega, rfl⟩

set_option maxRecDepth 100000 in
theorem sf_any (w : World) (a0 : Option Addr) (n0 c0 : Nat) (l0 : List Sp) (r0 : SRow w a0 l0) (e0 : l0.length = n0) (b0 : n0 ≤ 1048576)
    (a1 : Option Addr) (n1 c1 : Nat) (l1 : List Sp) (r1 : SRow w a1 l1) (e1 : l1.length = n1) (b1 : n1 ≤ 1048576) :
    Calls Try.prog 21 #[.slice a0 n0 c0, .slice a1 n1 c1, .slice none 0 0, .slice none 0 0] w fun e w' => ∃ r, e = .returned (.bool r) ∧ w' = w := by
  go_enter Try.func21, Try.ntmps21
  go_wp2_with fail
  refine (spb_any w a0 n0 c0 l0 r0 e0 b0 _ (by omega) (by omega)).mono ?_
  rintro e w1 ⟨t1, rfl, h1, h1', rfl⟩
  go_wp2_with fail
  refine (spb_any w1 a1 n1 c1 l1 r1 e1 b1 t1 (by omega) (by omega)).mono ?_
  rintro e w2 ⟨t2, rfl, h2, h2', rfl⟩
  go_wp2
  go_ret
  exact ⟨_, rfl, rfl⟩

/-- A bool comes back, the world stands; where it is true C holds. -/
def Says' (e : Ending) (w' w : World) (C : Prop) : Prop := ∃ r : Bool, e = .returned (.bool r) ∧ w' = w ∧ (r = true → C)
theorem Says'.intro {e : Ending} {w' w : World} {C : Prop} (r : Bool) (h1 : e = .returned (.bool r)) (h2 : w' = w) (h3 : r = true → C) : Says' e w' w C := ⟨r, h1, h2, h3⟩
/-- The sizes that the law's own bound gives. -/
def Sized (n0 : Nat) (l0 : List Sp) (n1 : Nat) (l1 : List Sp) : Prop := n0 ≤ 1048576 ∧ n1 ≤ 1048576 ∧ wsum l0 n0 + wsum l1 n1 ≤ 1048576

set_option maxRecDepth 100000 in
set_option maxHeartbeats 1000000 in
theorem zb24 (w : World) (a0 : Option Addr) (len0 cap0 : Nat) (l0 : List Sp) (r0 : SRow w a0 l0) (e0 : l0.length = len0) (m0 : len0 ≤ maxLen) (a1 : Option Addr) (len1 cap1 : Nat) (l1 : List Sp) (r1 : SRow w a1 l1) (e1 : l1.length = len1) (m1 : len1 ≤ maxLen) :
    Calls Try.prog 24 #[.slice a0 len0 cap0, .slice a1 len1 cap1] w fun e w' => Says' e w' w (Sized len0 l0 len1 l1) := by
  unfold maxLen at m0 m1
  have R0 := Hid.intro r0
  have L0 := Hid.intro e0
  have R1 := Hid.intro r1
  have L1 := Hid.intro e1
  clear r0 e0 r1 e1
  go_enter Try.func24, Try.ntmps24
  by_cases b0 : len0 ≤ 1048576
  rotate_left
  · have n0 : (1048576 : Int) < (len0 : Int) := by omega
    go_wp2
    (go_ret; exact Says'.intro false rfl rfl (fun h => by cases h))
  go_wp2_with fail
  go_loop [5, 6] (fun t c => ∃ (k : Nat), k ≤ len0 ∧ c = .int .i64 k ∧ t = .int .i64 ((len0 : Int) + ((wsum l0 k : Nat) : Int)) ∧ (len0 : Int) + ((wsum l0 k : Nat) : Int) ≤ 1048576) (fun _ c => len0 - (intOf c).toNat)
  case atStart => exact ⟨0, Nat.zero_le _, rfl, by simp [wsum], by simp [wsum]; omega⟩
  case round =>
    obtain ⟨k0, hk0, rfl, rfl, hy0⟩ := hrel
    by_cases t0 : k0 < len0
    · obtain ⟨b, off, hx, hcell⟩ := R0.out.at (by rw [L0.out]; omega)
      subst hx
      have hx' := (hcell k0 (by rw [L0.out]; exact t0)).2.2.2
      clear hcell
      have hst : wsum l0 (k0 + 1) = wsum l0 k0 + (ga dS l0 k0).wn := rfl
      have HST := Hid.intro hst
      clear hst
      generalize (ga dS l0 k0).wn = m at hx' HST
      generalize (ga dS l0 k0).wa = ma at hx'
      generalize (ga dS l0 k0).wc = mc at hx'
      generalize wsum l0 k0 = z0 at *
      by_cases u1 : m ≤ 1048576
      · by_cases u3 : (len0 : Int) + (z0 : Int) + (m : Int) ≤ 1048576
        · go_wp2
          go_round
          case rel => exact ⟨k0 + 1, by omega, by go_num, by rw [HST.out]; go_num, by rw [HST.out]; omega⟩
          case measure => simp [intOf]; omega
        · have u4 : (1048576 : Int) < (len0 : Int) + (z0 : Int) + (m : Int) := by omega
          go_wp2
          (go_ret; exact Says'.intro false rfl rfl (fun h => by cases h))
      · have u2 : (1048576 : Int) < (m : Int) := by omega
        go_wp2
        (go_ret; exact Says'.intro false rfl rfl (fun h => by cases h))
    · obtain rfl : k0 = len0 := by omega
      by_cases b1 : len1 ≤ 1048576
      rotate_left
      · have n1 : (1048576 : Int) < (len1 : Int) := by omega
        go_wp2
        (go_ret; exact Says'.intro false rfl rfl (fun h => by cases h))
      have HW := Hid.intro (rfl : wsum l0 k0 = wsum l0 k0)
      obtain ⟨z0, hz0⟩ : ∃ z, z = wsum l0 k0 := ⟨_, rfl⟩
      rw [← hz0] at hy0 ⊢
      have HZ := Hid.intro hz0
      clear hz0 HW
      by_cases d1 : (k0 : Int) + (z0 : Int) + (len1 : Int) ≤ 1048576
      rotate_left
      · have n1 : (1048576 : Int) < (k0 : Int) + (z0 : Int) + (len1 : Int) := by omega
        go_wp2
        (go_ret; exact Says'.intro false rfl rfl (fun h => by cases h))
      go_wp2_with fail
      go_loop [5, 7] (fun t c => ∃ (k : Nat), k ≤ len1 ∧ c = .int .i64 k ∧ t = .int .i64 ((k0 : Int) + (z0 : Int) + (len1 : Int) + ((wsum l1 k : Nat) : Int)) ∧ (k0 : Int) + (z0 : Int) + (len1 : Int) + ((wsum l1 k : Nat) : Int) ≤ 1048576) (fun _ c => len1 - (intOf c).toNat)
      case atStart => exact ⟨0, Nat.zero_le _, rfl, by simp [wsum], by simp [wsum]; omega⟩
      case round =>
        obtain ⟨k1, hk1, rfl, rfl, hy1⟩ := hrel
        by_cases t1 : k1 < len1
        · obtain ⟨b, off, hx, hcell⟩ := R1.out.at (by rw [L1.out]; omega)
          subst hx
          have hx' := (hcell k1 (by rw [L1.out]; exact t1)).2.2.2
          clear hcell
          have hst : wsum l1 (k1 + 1) = wsum l1 k1 + (ga dS l1 k1).wn := rfl
          have HST := Hid.intro hst
          clear hst
          generalize (ga dS l1 k1).wn = m at hx' HST
          generalize (ga dS l1 k1).wa = ma at hx'
          generalize (ga dS l1 k1).wc = mc at hx'
          generalize wsum l1 k1 = z1 at *
          by_cases u1 : m ≤ 1048576
          · by_cases u3 : (k0 : Int) + (z0 : Int) + (len1 : Int) + (z1 : Int) + (m : Int) ≤ 1048576
            · go_wp2
              go_round
              case rel => exact ⟨k1 + 1, by omega, by go_num, by rw [HST.out]; go_num, by rw [HST.out]; omega⟩
              case measure => simp [intOf]; omega
            · have u4 : (1048576 : Int) < (k0 : Int) + (z0 : Int) + (len1 : Int) + (z1 : Int) + (m : Int) := by omega
              go_wp2
              (go_ret; exact Says'.intro false rfl rfl (fun h => by cases h))
          · have u2 : (1048576 : Int) < (m : Int) := by omega
            go_wp2
            (go_ret; exact Says'.intro false rfl rfl (fun h => by cases h))
        · obtain rfl : k1 = len1 := by omega
          go_wp2
          go_ret
          exact Says'.intro true rfl rfl (fun _ => ⟨b0, b1, by have := HZ.out; omega⟩)
end Go.Proofs.Qxb6600061a
