/-
  THE WALK OF appendInteger (function 24).
-/
import Derived.Test.Qxb6001432aElem
import Derived.Deep.CutBlock
namespace Go.Proofs.Qxb6001432a
open Go.RowKit

set_option maxRecDepth 100000 in
set_option maxHeartbeats 1000000 in
theorem ai_any (w : World) (base : Nat) (v : Value) (n : Nat) (l : List Nat) (hown : w.ownsRow base 5 1 v n (B l)) (hbase : base ≤ w.heap.size) (x : Int)
    (hx0 : -9223372036854775808 ≤ x) (hx1 : x ≤ 9223372036854775807) (hn : n ≤ 1073741824) :
    Calls Try.prog 24 #[v, .int .i64 x] w fun e w' => ∃ v', e = .returned v' ∧ App base 5 1 w v n (B l) w' v' (encI x).length (B (encI x)) := by
  obtain ⟨i0, hi, hz0, hz1, hz2⟩ := info_parts info5
  have hb := ilen_bd x
  go_enter Try.func24, Try.ntmps24
  go_upto_block 0 with fail
  go_cut [5] from 8 (fun c wc => c = .int .i64 (ilen x) ∧ w = wc)
  case first =>
    go_wp2_with fail
    go_loop [5] (fun c => ∃ k : Nat, 1 ≤ k ∧ k ≤ ilen x ∧ c = .int .i64 k) (fun c => 8 - (intOf c).toNat)
    case atStart => exact ⟨1, by omega, by omega, rfl⟩
    case round =>
      obtain ⟨k, hk1, hk2, rfl⟩ := hrel
      by_cases hlt : k < ilen x
      · obtain rfl | rfl | rfl | rfl | rfl | rfl | rfl : k = 1 ∨ k = 2 ∨ k = 3 ∨ k = 4 ∨ k = 5 ∨ k = 6 ∨ k = 7 := by omega
        · have hf := (ilen_1 x).1 hlt
          by_cases hlo : x < -128
          · go_wp2
            go_round
            case rel => exact ⟨2, by omega, by omega, rfl⟩
            case measure => simp [intOf]
          · have hhi : 128 ≤ x := by omega
            go_wp2
            go_round
            case rel => exact ⟨2, by omega, by omega, rfl⟩
            case measure => simp [intOf]
        · have hf := (ilen_2 x hk2).1 hlt
          by_cases hlo : x < -32768
          · go_wp2
            go_round
            case rel => exact ⟨3, by omega, by omega, rfl⟩
            case measure => simp [intOf]
          · have hhi : 32768 ≤ x := by omega
            go_wp2
            go_round
            case rel => exact ⟨3, by omega, by omega, rfl⟩
            case measure => simp [intOf]
        · have hf := (ilen_3 x hk2).1 hlt
          by_cases hlo : x < -8388608
          · go_wp2
            go_round
            case rel => exact ⟨4, by omega, by omega, rfl⟩
            case measure => simp [intOf]
          · have hhi : 8388608 ≤ x := by omega
            go_wp2
            go_round
            case rel => exact ⟨4, by omega, by omega, rfl⟩
            case measure => simp [intOf]
        · have hf := (ilen_4 x hk2).1 hlt
          by_cases hlo : x < -2147483648
          · go_wp2
            go_round
            case rel => exact ⟨5, by omega, by omega, rfl⟩
            case measure => simp [intOf]
          · have hhi : 2147483648 ≤ x := by omega
            go_wp2
            go_round
            case rel => exact ⟨5, by omega, by omega, rfl⟩
            case measure => simp [intOf]
        · have hf := (ilen_5 x hk2).1 hlt
          by_cases hlo : x < -549755813888
          · go_wp2
            go_round
            case rel => exact ⟨6, by omega, by omega, rfl⟩
            case measure => simp [intOf]
          · have hhi : 549755813888 ≤ x := by omega
            go_wp2
            go_round
            case rel => exact ⟨6, by omega, by omega, rfl⟩
            case measure => simp [intOf]
        · have hf := (ilen_6 x hk2).1 hlt
          by_cases hlo : x < -140737488355328
          · go_wp2
            go_round
            case rel => exact ⟨7, by omega, by omega, rfl⟩
            case measure => simp [intOf]
          · have hhi : 140737488355328 ≤ x := by omega
            go_wp2
            go_round
            case rel => exact ⟨7, by omega, by omega, rfl⟩
            case measure => simp [intOf]
        · have hf := (ilen_7 x hk2).1 hlt
          by_cases hlo : x < -36028797018963968
          · go_wp2
            go_round
            case rel => exact ⟨8, by omega, by omega, rfl⟩
            case measure => simp [intOf]
          · have hhi : 36028797018963968 ≤ x := by omega
            go_wp2
            go_round
            case rel => exact ⟨8, by omega, by omega, rfl⟩
            case measure => simp [intOf]
      · have HK : Hid (k = ilen x) := (show k = ilen x by omega)
        obtain rfl | rfl | rfl | rfl | rfl | rfl | rfl | rfl : k = 1 ∨ k = 2 ∨ k = 3 ∨ k = 4 ∨ k = 5 ∨ k = 6 ∨ k = 7 ∨ k = 8 := by omega
        · have hlo : -128 ≤ x ∧ x < 128 := by have := ilen_1 x; omega
          obtain ⟨h1, h2⟩ := hlo
          go_wp2
          go_meet
          case rel => exact ⟨by rw [← HK.out]; rfl, rfl⟩
        · have hlo : -32768 ≤ x ∧ x < 32768 := by have := ilen_2 x hk2; omega
          obtain ⟨h1, h2⟩ := hlo
          go_wp2
          go_meet
          case rel => exact ⟨by rw [← HK.out]; rfl, rfl⟩
        · have hlo : -8388608 ≤ x ∧ x < 8388608 := by have := ilen_3 x hk2; omega
          obtain ⟨h1, h2⟩ := hlo
          go_wp2
          go_meet
          case rel => exact ⟨by rw [← HK.out]; rfl, rfl⟩
        · have hlo : -2147483648 ≤ x ∧ x < 2147483648 := by have := ilen_4 x hk2; omega
          obtain ⟨h1, h2⟩ := hlo
          go_wp2
          go_meet
          case rel => exact ⟨by rw [← HK.out]; rfl, rfl⟩
        · have hlo : -549755813888 ≤ x ∧ x < 549755813888 := by have := ilen_5 x hk2; omega
          obtain ⟨h1, h2⟩ := hlo
          go_wp2
          go_meet
          case rel => exact ⟨by rw [← HK.out]; rfl, rfl⟩
        · have hlo : -140737488355328 ≤ x ∧ x < 140737488355328 := by have := ilen_6 x hk2; omega
          obtain ⟨h1, h2⟩ := hlo
          go_wp2
          go_meet
          case rel => exact ⟨by rw [← HK.out]; rfl, rfl⟩
        · have hlo : -36028797018963968 ≤ x ∧ x < 36028797018963968 := by have := ilen_7 x hk2; omega
          obtain ⟨h1, h2⟩ := hlo
          go_wp2
          go_meet
          case rel => exact ⟨by rw [← HK.out]; rfl, rfl⟩
        · go_wp2
          go_meet
          case rel => exact ⟨by rw [← HK.out]; rfl, rfl⟩
  case rest =>
    obtain ⟨rfl, rfl⟩ := hcut
    go_wp2_with (at_make; go_loud (refine wpList_make_full _ rfl _ _ 22 rfl w.heap.size 5 i0 (.int .u8 0) 1 Try.underlying22 hi hz0 hz1 .i64 .i64 _ _ (ilen x) rfl rfl rfl rfl (by rw [hz2]; omega) (by unfold maxLen; omega) (Nat.le_refl _) ?_))
    intro w1 ho1 hg1
    have ho1' : w1.ownsRow w.heap.size 5 1 (.slice (some ⟨w.heap.size, 0, none⟩) (ilen x) (ilen x)) (ilen x) (B (cont x (ilen x) 0)) := by rw [cont_zero, ← toList_madeCells_one]; simpa using ho1
    clear ho1
    obtain ⟨N, hN⟩ : ∃ N, N = ilen x := ⟨_, rfl⟩
    rw [← hN] at hb ho1' ⊢
    have HN : Hid (N = ilen x) := hN
    clear hN
    go_wp2_with fail
    go_loopw [32] (fun c wr => ∃ i : Nat, i ≤ N ∧ c = .int .i64 i ∧ wr.ownsRow w.heap.size 5 1 (.slice (some ⟨w.heap.size, 0, none⟩) N N) N (B (cont x N i)) ∧ w.grownBy wr none) (fun c _ => N - (intOf c).toNat)
    case atStart => exact ⟨0, Nat.zero_le _, rfl, ho1', hg1⟩
    case round =>
      obtain ⟨i, hi, rfl, hoi, hgi⟩ := hrel
      by_cases hlt : i < N
      · have hc := hoi.cellAt i (by omega)
        rw [B_get _ _ (by rw [cont_length]; exact hlt)] at hc
        have hfz := hoi.frozenAt i
        have hst := hoi.stored i (.int .u8 (ib x N i : Nat))
        rw [cont_step, ib_cast] at hst
        go_wp2
        go_roundw
        case rel => exact ⟨i + 1, by omega, by go_num, hst.1, grownBy_trans hgi hst.2 (.inr fun k hk => by cases hk; exact Nat.le_refl _)⟩
        case measure => simp [intOf]; omega
      · obtain rfl : i = N := by omega
        have hown' := hown.kept hgi (by cases v.ownBlock <;> simp)
        have hci : cont x i i = ibytes x := by rw [HN.out]; exact cont_end x
        rw [hci] at hoi
        clear hci
        go_wp2_with fail
        refine (ae_any wr base v n l hown' two w.heap.size (some ⟨w.heap.size, 0, none⟩) i i (ibytes x) hoi (blk_ne hown hoi) (Nat.le_trans hbase hgi.size) (by omega) (by show 1 ≤ _; omega) hn).mono ?_
        rintro e w2 ⟨v2, rfl, h2⟩
        go_wp2
        go_ret
        exact ⟨v2, rfl, App.pre hgi h2⟩
end Go.Proofs.Qxb6001432a
