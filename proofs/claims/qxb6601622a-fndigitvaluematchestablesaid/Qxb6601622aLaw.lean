/-
  THE WALKS OF digitValue (6) AND FnDigitValueMatchesTable (3).
-/
import Derived.Test.Qxb6601622aRows
import Derived.WalkKit
import Derived.OpenShut
import Derived.Deep.CutBlock
namespace Go.Proofs.Qxb6601622a
open Go.RowKit

/-- What digitValue computes. -/
def dv (c : Int) : Int := if 48 ≤ c ∧ c ≤ 57 then c - 48 else if 97 ≤ c ∧ c ≤ 102 then c - 87 else if 65 ≤ c ∧ c ≤ 70 then c - 55 else 16

theorem dv_num {c : Int} (h1 : 48 ≤ c) (h2 : c ≤ 57) : dv c = c - 48 := by unfold dv; rw [if_pos ⟨h1, h2⟩]
theorem dv_low {c : Int} (h1 : 97 ≤ c) (h2 : c ≤ 102) : dv c = c - 97 + 10 := by unfold dv; rw [if_neg (by omega), if_pos ⟨h1, h2⟩]; omega
theorem dv_upp {c : Int} (h1 : 65 ≤ c) (h2 : c ≤ 70) : dv c = c - 65 + 10 := by unfold dv; rw [if_neg (by omega), if_neg (by omega), if_pos ⟨h1, h2⟩]; omega
theorem dv_none {c : Int} (h1 : ¬ (48 ≤ c ∧ c ≤ 57)) (h2 : ¬ (97 ≤ c ∧ c ≤ 102)) (h3 : ¬ (65 ≤ c ∧ c ≤ 70)) : dv c = 16 := by unfold dv; rw [if_neg h1, if_neg h2, if_neg h3]
theorem dv_ge (c : Int) : 0 ≤ dv c := by unfold dv; (repeat' split) <;> omega
theorem dv_step (c : Int) (k L U : Int) (hk : k ≤ dv c) (h : ∀ c, dv c = k → c = L ∨ c = U) (h1 : ¬ c = L) (h2 : ¬ c = U) : k + 1 ≤ dv c := by
  have : dv c ≠ k := fun e => (h c e).elim h1 h2
  omega
theorem dv_inv (c : Int) (k : Int) (hk : 0 ≤ k) (hk2 : k < 16) (h : dv c = k) : (k < 10 ∧ c = k + 48) ∨ (10 ≤ k ∧ (c = k + 87 ∨ c = k + 55)) := by
  unfold dv at h
  (repeat' split at h) <;> omega

theorem dv16 {c : Int} (h : 16 ≤ dv c) : dv c = 16 := by
  revert h; unfold dv; (repeat' split) <;> omega

theorem ret_int {k : IntKind} {a b : Int} (h : a = b) : Ending.returned (.int k a) = .returned (.int k b) := by rw [h]
set_option maxRecDepth 100000 in
theorem digit_any (c : Int) (h0 : 0 ≤ c) (h1 : c ≤ 255) (w : World) : Calls Try.prog 6 #[.int .u8 c] w fun e w' => e = .returned (.int .u64 (dv c)) ∧ w' = w := by
  by_cases hn : 48 ≤ c ∧ c ≤ 57
  · obtain ⟨a, b⟩ := hn
    go_enter Try.func6, Try.ntmps6
    go_wp2
    go_ret
    exact ⟨ret_int (by rw [dv_num a b]), rfl⟩
  · by_cases hl : 97 ≤ c ∧ c ≤ 102
    · obtain ⟨a, b⟩ := hl
      go_enter Try.func6, Try.ntmps6
      go_wp2
      go_ret
      exact ⟨ret_int (by rw [dv_low a b]), rfl⟩
    · by_cases hu : 65 ≤ c ∧ c ≤ 70
      · obtain ⟨a, b⟩ := hu
        go_enter Try.func6, Try.ntmps6
        go_wp2
        all_goals first | (exfalso; omega) | (go_ret; exact ⟨ret_int (by rw [dv_upp a b]), rfl⟩)
      · go_enter Try.func6, Try.ntmps6
        go_wp2
        all_goals first | (exfalso; omega) | (go_ret; exact ⟨ret_int (by rw [dv_none hn hl hu]), rfl⟩)

namespace fnDigitValueMatchesTable
set_option maxRecDepth 100000 in
set_option maxHeartbeats 1000000 in
theorem walk (a0 : Int) (w0 : (Lit.int .u8 a0).wf = true) (w : World) :
    Calls Try.prog 3 #[.int .u8 a0] w fun e w' => e = .returned (.bool true) ∧ Grown w w' := by
  obtain ⟨h0, h1⟩ := bounds_u8 w0
  clear w0
  have hdig := digit_any a0 h0 h1 w
  have HD : Hid (0 ≤ dv a0) := dv_ge a0
  go_enter Try.func3, Try.ntmps3
  go_upto_block 0 with fail
  go_cut [3] from 5 (fun v wc => v = .int .u64 (dv a0) ∧ w = wc)
  case first =>
    clear hdig
    go_wp2_with fail
    go_loop [3, 4] (fun v c => ∃ k : Nat, k ≤ 16 ∧ c = .int .i64 k ∧ v = .int .u64 16 ∧ (k : Int) ≤ dv a0) (fun _ c => 16 - (intOf c).toNat)
    case atStart => exact ⟨0, by omega, rfl, rfl, HD.out⟩
    case round =>
      obtain ⟨k, hk, rfl, rfl, hd⟩ := hrel
      have HK : Hid ((k : Int) ≤ dv a0) := hd
      clear hd
      obtain rfl | hlt : k = 16 ∨ k < 16 := by omega
      · go_wp2
        go_meet
        case rel => exact ⟨by rw [dv16 HK.out], rfl⟩
      · obtain rfl | rfl | rfl | rfl | rfl | rfl | rfl | rfl | rfl | rfl | rfl | rfl | rfl | rfl | rfl | rfl : k = 0 ∨ k = 1 ∨ k = 2 ∨ k = 3 ∨ k = 4 ∨ k = 5 ∨ k = 6 ∨ k = 7 ∨ k = 8 ∨ k = 9 ∨ k = 10 ∨ k = 11 ∨ k = 12 ∨ k = 13 ∨ k = 14 ∨ k = 15 := by omega
        · have bl : (({ data := #[48, 49, 50, 51, 52, 53, 54, 55, 56, 57, 97, 98, 99, 100, 101, 102] } : ByteArray)[0]'(by decide)).toNat = 48 := rfl
          have bu : (({ data := #[48, 49, 50, 51, 52, 53, 54, 55, 56, 57, 65, 66, 67, 68, 69, 70] } : ByteArray)[0]'(by decide)).toNat = 48 := rfl
          by_cases e1 : a0 = 48
          · subst e1
            go_wp2
            go_meet
            case rel => exact ⟨rfl, rfl⟩
          · have q1 : ((48 : Int) == a0) = false := by simp; omega
            go_wp2
            go_round
            case rel => exact ⟨1, by omega, rfl, rfl, dv_step a0 0 48 48 HK.out (fun c e => by have := dv_inv c 0 (by omega) (by omega) e; omega) e1 e1⟩
            case measure => simp [intOf]
        · have bl : (({ data := #[48, 49, 50, 51, 52, 53, 54, 55, 56, 57, 97, 98, 99, 100, 101, 102] } : ByteArray)[1]'(by decide)).toNat = 49 := rfl
          have bu : (({ data := #[48, 49, 50, 51, 52, 53, 54, 55, 56, 57, 65, 66, 67, 68, 69, 70] } : ByteArray)[1]'(by decide)).toNat = 49 := rfl
          by_cases e1 : a0 = 49
          · subst e1
            go_wp2
            go_meet
            case rel => exact ⟨rfl, rfl⟩
          · have q1 : ((49 : Int) == a0) = false := by simp; omega
            go_wp2
            go_round
            case rel => exact ⟨2, by omega, rfl, rfl, dv_step a0 1 49 49 HK.out (fun c e => by have := dv_inv c 1 (by omega) (by omega) e; omega) e1 e1⟩
            case measure => simp [intOf]
        · have bl : (({ data := #[48, 49, 50, 51, 52, 53, 54, 55, 56, 57, 97, 98, 99, 100, 101, 102] } : ByteArray)[2]'(by decide)).toNat = 50 := rfl
          have bu : (({ data := #[48, 49, 50, 51, 52, 53, 54, 55, 56, 57, 65, 66, 67, 68, 69, 70] } : ByteArray)[2]'(by decide)).toNat = 50 := rfl
          by_cases e1 : a0 = 50
          · subst e1
            go_wp2
            go_meet
            case rel => exact ⟨rfl, rfl⟩
          · have q1 : ((50 : Int) == a0) = false := by simp; omega
            go_wp2
            go_round
            case rel => exact ⟨3, by omega, rfl, rfl, dv_step a0 2 50 50 HK.out (fun c e => by have := dv_inv c 2 (by omega) (by omega) e; omega) e1 e1⟩
            case measure => simp [intOf]
        · have bl : (({ data := #[48, 49, 50, 51, 52, 53, 54, 55, 56, 57, 97, 98, 99, 100, 101, 102] } : ByteArray)[3]'(by decide)).toNat = 51 := rfl
          have bu : (({ data := #[48, 49, 50, 51, 52, 53, 54, 55, 56, 57, 65, 66, 67, 68, 69, 70] } : ByteArray)[3]'(by decide)).toNat = 51 := rfl
          by_cases e1 : a0 = 51
          · subst e1
            go_wp2
            go_meet
            case rel => exact ⟨rfl, rfl⟩
          · have q1 : ((51 : Int) == a0) = false := by simp; omega
            go_wp2
            go_round
            case rel => exact ⟨4, by omega, rfl, rfl, dv_step a0 3 51 51 HK.out (fun c e => by have := dv_inv c 3 (by omega) (by omega) e; omega) e1 e1⟩
            case measure => simp [intOf]
        · have bl : (({ data := #[48, 49, 50, 51, 52, 53, 54, 55, 56, 57, 97, 98, 99, 100, 101, 102] } : ByteArray)[4]'(by decide)).toNat = 52 := rfl
          have bu : (({ data := #[48, 49, 50, 51, 52, 53, 54, 55, 56, 57, 65, 66, 67, 68, 69, 70] } : ByteArray)[4]'(by decide)).toNat = 52 := rfl
          by_cases e1 : a0 = 52
          · subst e1
            go_wp2
            go_meet
            case rel => exact ⟨rfl, rfl⟩
          · have q1 : ((52 : Int) == a0) = false := by simp; omega
            go_wp2
            go_round
            case rel => exact ⟨5, by omega, rfl, rfl, dv_step a0 4 52 52 HK.out (fun c e => by have := dv_inv c 4 (by omega) (by omega) e; omega) e1 e1⟩
            case measure => simp [intOf]
        · have bl : (({ data := #[48, 49, 50, 51, 52, 53, 54, 55, 56, 57, 97, 98, 99, 100, 101, 102] } : ByteArray)[5]'(by decide)).toNat = 53 := rfl
          have bu : (({ data := #[48, 49, 50, 51, 52, 53, 54, 55, 56, 57, 65, 66, 67, 68, 69, 70] } : ByteArray)[5]'(by decide)).toNat = 53 := rfl
          by_cases e1 : a0 = 53
          · subst e1
            go_wp2
            go_meet
            case rel => exact ⟨rfl, rfl⟩
          · have q1 : ((53 : Int) == a0) = false := by simp; omega
            go_wp2
            go_round
            case rel => exact ⟨6, by omega, rfl, rfl, dv_step a0 5 53 53 HK.out (fun c e => by have := dv_inv c 5 (by omega) (by omega) e; omega) e1 e1⟩
            case measure => simp [intOf]
        · have bl : (({ data := #[48, 49, 50, 51, 52, 53, 54, 55, 56, 57, 97, 98, 99, 100, 101, 102] } : ByteArray)[6]'(by decide)).toNat = 54 := rfl
          have bu : (({ data := #[48, 49, 50, 51, 52, 53, 54, 55, 56, 57, 65, 66, 67, 68, 69, 70] } : ByteArray)[6]'(by decide)).toNat = 54 := rfl
          by_cases e1 : a0 = 54
          · subst e1
            go_wp2
            go_meet
            case rel => exact ⟨rfl, rfl⟩
          · have q1 : ((54 : Int) == a0) = false := by simp; omega
            go_wp2
            go_round
            case rel => exact ⟨7, by omega, rfl, rfl, dv_step a0 6 54 54 HK.out (fun c e => by have := dv_inv c 6 (by omega) (by omega) e; omega) e1 e1⟩
            case measure => simp [intOf]
        · have bl : (({ data := #[48, 49, 50, 51, 52, 53, 54, 55, 56, 57, 97, 98, 99, 100, 101, 102] } : ByteArray)[7]'(by decide)).toNat = 55 := rfl
          have bu : (({ data := #[48, 49, 50, 51, 52, 53, 54, 55, 56, 57, 65, 66, 67, 68, 69, 70] } : ByteArray)[7]'(by decide)).toNat = 55 := rfl
          by_cases e1 : a0 = 55
          · subst e1
            go_wp2
            go_meet
            case rel => exact ⟨rfl, rfl⟩
          · have q1 : ((55 : Int) == a0) = false := by simp; omega
            go_wp2
            go_round
            case rel => exact ⟨8, by omega, rfl, rfl, dv_step a0 7 55 55 HK.out (fun c e => by have := dv_inv c 7 (by omega) (by omega) e; omega) e1 e1⟩
            case measure => simp [intOf]
        · have bl : (({ data := #[48, 49, 50, 51, 52, 53, 54, 55, 56, 57, 97, 98, 99, 100, 101, 102] } : ByteArray)[8]'(by decide)).toNat = 56 := rfl
          have bu : (({ data := #[48, 49, 50, 51, 52, 53, 54, 55, 56, 57, 65, 66, 67, 68, 69, 70] } : ByteArray)[8]'(by decide)).toNat = 56 := rfl
          by_cases e1 : a0 = 56
          · subst e1
            go_wp2
            go_meet
            case rel => exact ⟨rfl, rfl⟩
          · have q1 : ((56 : Int) == a0) = false := by simp; omega
            go_wp2
            go_round
            case rel => exact ⟨9, by omega, rfl, rfl, dv_step a0 8 56 56 HK.out (fun c e => by have := dv_inv c 8 (by omega) (by omega) e; omega) e1 e1⟩
            case measure => simp [intOf]
        · have bl : (({ data := #[48, 49, 50, 51, 52, 53, 54, 55, 56, 57, 97, 98, 99, 100, 101, 102] } : ByteArray)[9]'(by decide)).toNat = 57 := rfl
          have bu : (({ data := #[48, 49, 50, 51, 52, 53, 54, 55, 56, 57, 65, 66, 67, 68, 69, 70] } : ByteArray)[9]'(by decide)).toNat = 57 := rfl
          by_cases e1 : a0 = 57
          · subst e1
            go_wp2
            go_meet
            case rel => exact ⟨rfl, rfl⟩
          · have q1 : ((57 : Int) == a0) = false := by simp; omega
            go_wp2
            go_round
            case rel => exact ⟨10, by omega, rfl, rfl, dv_step a0 9 57 57 HK.out (fun c e => by have := dv_inv c 9 (by omega) (by omega) e; omega) e1 e1⟩
            case measure => simp [intOf]
        · have bl : (({ data := #[48, 49, 50, 51, 52, 53, 54, 55, 56, 57, 97, 98, 99, 100, 101, 102] } : ByteArray)[10]'(by decide)).toNat = 97 := rfl
          have bu : (({ data := #[48, 49, 50, 51, 52, 53, 54, 55, 56, 57, 65, 66, 67, 68, 69, 70] } : ByteArray)[10]'(by decide)).toNat = 65 := rfl
          by_cases e1 : a0 = 97
          · subst e1
            go_wp2
            go_meet
            case rel => exact ⟨rfl, rfl⟩
          · have q1 : ((97 : Int) == a0) = false := by simp; omega
            by_cases e2 : a0 = 65
            · subst e2
              go_wp2
              go_meet
              case rel => exact ⟨rfl, rfl⟩
            · have q2 : ((65 : Int) == a0) = false := by simp; omega
              go_wp2
              go_round
              case rel => exact ⟨11, by omega, rfl, rfl, dv_step a0 10 97 65 HK.out (fun c e => by have := dv_inv c 10 (by omega) (by omega) e; omega) e1 e2⟩
              case measure => simp [intOf]
        · have bl : (({ data := #[48, 49, 50, 51, 52, 53, 54, 55, 56, 57, 97, 98, 99, 100, 101, 102] } : ByteArray)[11]'(by decide)).toNat = 98 := rfl
          have bu : (({ data := #[48, 49, 50, 51, 52, 53, 54, 55, 56, 57, 65, 66, 67, 68, 69, 70] } : ByteArray)[11]'(by decide)).toNat = 66 := rfl
          by_cases e1 : a0 = 98
          · subst e1
            go_wp2
            go_meet
            case rel => exact ⟨rfl, rfl⟩
          · have q1 : ((98 : Int) == a0) = false := by simp; omega
            by_cases e2 : a0 = 66
            · subst e2
              go_wp2
              go_meet
              case rel => exact ⟨rfl, rfl⟩
            · have q2 : ((66 : Int) == a0) = false := by simp; omega
              go_wp2
              go_round
              case rel => exact ⟨12, by omega, rfl, rfl, dv_step a0 11 98 66 HK.out (fun c e => by have := dv_inv c 11 (by omega) (by omega) e; omega) e1 e2⟩
              case measure => simp [intOf]
        · have bl : (({ data := #[48, 49, 50, 51, 52, 53, 54, 55, 56, 57, 97, 98, 99, 100, 101, 102] } : ByteArray)[12]'(by decide)).toNat = 99 := rfl
          have bu : (({ data := #[48, 49, 50, 51, 52, 53, 54, 55, 56, 57, 65, 66, 67, 68, 69, 70] } : ByteArray)[12]'(by decide)).toNat = 67 := rfl
          by_cases e1 : a0 = 99
          · subst e1
            go_wp2
            go_meet
            case rel => exact ⟨rfl, rfl⟩
          · have q1 : ((99 : Int) == a0) = false := by simp; omega
            by_cases e2 : a0 = 67
            · subst e2
              go_wp2
              go_meet
              case rel => exact ⟨rfl, rfl⟩
            · have q2 : ((67 : Int) == a0) = false := by simp; omega
              go_wp2
              go_round
              case rel => exact ⟨13, by omega, rfl, rfl, dv_step a0 12 99 67 HK.out (fun c e => by have := dv_inv c 12 (by omega) (by omega) e; omega) e1 e2⟩
              case measure => simp [intOf]
        · have bl : (({ data := #[48, 49, 50, 51, 52, 53, 54, 55, 56, 57, 97, 98, 99, 100, 101, 102] } : ByteArray)[13]'(by decide)).toNat = 100 := rfl
          have bu : (({ data := #[48, 49, 50, 51, 52, 53, 54, 55, 56, 57, 65, 66, 67, 68, 69, 70] } : ByteArray)[13]'(by decide)).toNat = 68 := rfl
          by_cases e1 : a0 = 100
          · subst e1
            go_wp2
            go_meet
            case rel => exact ⟨rfl, rfl⟩
          · have q1 : ((100 : Int) == a0) = false := by simp; omega
            by_cases e2 : a0 = 68
            · subst e2
              go_wp2
              go_meet
              case rel => exact ⟨rfl, rfl⟩
            · have q2 : ((68 : Int) == a0) = false := by simp; omega
              go_wp2
              go_round
              case rel => exact ⟨14, by omega, rfl, rfl, dv_step a0 13 100 68 HK.out (fun c e => by have := dv_inv c 13 (by omega) (by omega) e; omega) e1 e2⟩
              case measure => simp [intOf]
        · have bl : (({ data := #[48, 49, 50, 51, 52, 53, 54, 55, 56, 57, 97, 98, 99, 100, 101, 102] } : ByteArray)[14]'(by decide)).toNat = 101 := rfl
          have bu : (({ data := #[48, 49, 50, 51, 52, 53, 54, 55, 56, 57, 65, 66, 67, 68, 69, 70] } : ByteArray)[14]'(by decide)).toNat = 69 := rfl
          by_cases e1 : a0 = 101
          · subst e1
            go_wp2
            go_meet
            case rel => exact ⟨rfl, rfl⟩
          · have q1 : ((101 : Int) == a0) = false := by simp; omega
            by_cases e2 : a0 = 69
            · subst e2
              go_wp2
              go_meet
              case rel => exact ⟨rfl, rfl⟩
            · have q2 : ((69 : Int) == a0) = false := by simp; omega
              go_wp2
              go_round
              case rel => exact ⟨15, by omega, rfl, rfl, dv_step a0 14 101 69 HK.out (fun c e => by have := dv_inv c 14 (by omega) (by omega) e; omega) e1 e2⟩
              case measure => simp [intOf]
        · have bl : (({ data := #[48, 49, 50, 51, 52, 53, 54, 55, 56, 57, 97, 98, 99, 100, 101, 102] } : ByteArray)[15]'(by decide)).toNat = 102 := rfl
          have bu : (({ data := #[48, 49, 50, 51, 52, 53, 54, 55, 56, 57, 65, 66, 67, 68, 69, 70] } : ByteArray)[15]'(by decide)).toNat = 70 := rfl
          by_cases e1 : a0 = 102
          · subst e1
            go_wp2
            go_meet
            case rel => exact ⟨rfl, rfl⟩
          · have q1 : ((102 : Int) == a0) = false := by simp; omega
            by_cases e2 : a0 = 70
            · subst e2
              go_wp2
              go_meet
              case rel => exact ⟨rfl, rfl⟩
            · have q2 : ((70 : Int) == a0) = false := by simp; omega
              go_wp2
              go_round
              case rel => exact ⟨16, by omega, rfl, rfl, dv_step a0 15 102 70 HK.out (fun c e => by have := dv_inv c 15 (by omega) (by omega) e; omega) e1 e2⟩
              case measure => simp [intOf]
  case rest =>
    obtain ⟨rfl, rfl⟩ := hcut
    go_wp2_with (first | (go_at_call 5; go_in) | fail)
    refine hdig.mono ?_
    rintro e w' ⟨rfl, rfl⟩
    go_wp2
    go_ret
    exact ⟨rfl, Grown.refl _⟩
end fnDigitValueMatchesTable
end Go.Proofs.Qxb6601622a
