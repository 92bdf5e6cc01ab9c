/-
  THE WALK OF zzElem (13): where the bytes hold an element, it says where the contents lie.
-/
import Derived.Test.Qxb6001432aRead
import Derived.Test.Qxb6001432aPlain4
namespace Go.Proofs.Qxb6001432a
open Go.RowKit

set_option maxRecDepth 100000 in
theorem elem_short (w : World) (g n cap : Nat) (l : List Nat) (hb : Buf w g n l) (pos limit : Nat) (tag : ByteArray) (m : Nat)
    (htag : ∀ j (h : j < tag.size), bt l (pos + j) = (tag[j]'h).toNat) (hm : m < 128) (hlen : bt l (pos + tag.size) = m) (hlim : pos + tag.size + 1 + m ≤ limit) (hn1 : limit ≤ n) (hn : n ≤ 1073741824) :
    Calls Try.prog 13 #[.slice (some ⟨g, 0, none⟩) n cap, .int .i64 pos, .int .i64 limit, .string tag] w fun r w' =>
      r = .returned (.tuple #[.int .i64 (pos + tag.size + 1 : Nat), .int .i64 (pos + tag.size + 1 + m : Nat), .bool true]) ∧ ∃ k, w' = w.drewN k := by
  have HC : Hid (∀ j, j < n → w.cell? ⟨g, j, none⟩ = some (.int .u8 (bt l j : Nat))) := hb.cell
  have HT : Hid (∀ j (h : j < tag.size), bt l (pos + j) = (tag[j]'h).toNat) := htag
  have HL : Hid (bt l (pos + tag.size) = m) := hlen
  clear htag hlen
  go_enter Try.func13, Try.ntmps13
  go_wp2_with fail
  go_loopw [11] (fun c wr => ∃ i k : Nat, i ≤ tag.size ∧ c = .int .i64 i ∧ wr = w.drewN k) (fun c _ => tag.size - (intOf c).toNat)
  case atStart => exact ⟨0, 0, Nat.zero_le _, rfl, rfl⟩
  case round =>
    obtain ⟨i, k, hi, rfl, rfl⟩ := hrel
    by_cases hlt : i < tag.size
    · have c1 := HC.out (pos + i) (by omega)
      rw [HT.out i hlt] at c1
      have q1 : (pos : Int) + (i : Int) < (n : Int) := by omega
      have q2 : (i : Int) < (tag.size : Int) := by omega
      go_wp2_with fail
      go_quiet (fail)
      go_wp2
      go_roundw
      case rel => exact ⟨i + 1, _, by omega, by go_num, rfl⟩
      case measure => simp [intOf]; omega
    · obtain rfl : i = tag.size := by omega
      have c1 := HC.out (pos + tag.size) (by omega)
      rw [HL.out] at c1
      go_wp2
      go_ret3
      exact ⟨by congr, _, rfl⟩

set_option maxRecDepth 100000 in
theorem elem_long (w : World) (g n cap : Nat) (l : List Nat) (hb : Buf w g n l) (pos limit : Nat) (tag : ByteArray) (m : Nat)
    (htag : ∀ j (h : j < tag.size), bt l (pos + j) = (tag[j]'h).toNat) (hm : 128 ≤ m) (hm2 : m < 16777216) (hlen : bt l (pos + tag.size) = 128 + (be 3 m).length)
    (hoct : ∀ j, j < (be 3 m).length → bt l (pos + tag.size + 1 + j) = bt (be 3 m) j) (hlim : pos + tag.size + 1 + (be 3 m).length + m ≤ limit) (hn1 : limit ≤ n) (hn : n ≤ 1073741824) :
    Calls Try.prog 13 #[.slice (some ⟨g, 0, none⟩) n cap, .int .i64 pos, .int .i64 limit, .string tag] w fun r w' =>
      r = .returned (.tuple #[.int .i64 (pos + tag.size + 1 + (be 3 m).length : Nat), .int .i64 (pos + tag.size + 1 + (be 3 m).length + m : Nat), .bool true]) ∧ ∃ k, w' = w.drewN k := by
  have HC : Hid (∀ j, j < n → w.cell? ⟨g, j, none⟩ = some (.int .u8 (bt l j : Nat))) := hb.cell
  have HT : Hid (∀ j (h : j < tag.size), bt l (pos + j) = (tag[j]'h).toNat) := htag
  have hkl := be_len m (by omega) hm2
  have hh := be_head 3 m (by omega) (by simpa using hm2)
  have hby := be_byte 3 m
  have hst := vl_step m
  have hend := vl_end m hm2
  have hvl := fun i => vl_le m i hm2
  have hbb := fun j => bt_lt (be 3 m) hby j
  have HO : Hid (∀ j, j < (be 3 m).length → w.cell? ⟨g, pos + tag.size + 1 + j, none⟩ = some (.int .u8 (bt (be 3 m) j : Nat))) := fun j hj => by rw [← hoct j hj]; exact hb.cell _ (by omega)
  generalize (be 3 m).length = K at *
  have HL : Hid (bt l (pos + tag.size) = 128 + K) := hlen
  have HS : Hid (∀ i, i < K → vl m i * 256 + bt (be 3 m) i = vl m (i + 1)) := hst
  have HE : Hid (vl m K = m) := hend
  have HV : Hid (∀ i, vl m i ≤ m) := hvl
  have HB : Hid (∀ j, bt (be 3 m) j < 256) := hbb
  have HH : Hid (bt (be 3 m) 0 ≠ 0) := hh
  clear htag hlen hst hend hvl hbb hh hoct hby
  go_enter Try.func13, Try.ntmps13
  go_wp2_with fail
  go_loopw [11] (fun c wr => ∃ i k : Nat, i ≤ tag.size ∧ c = .int .i64 i ∧ wr = w.drewN k) (fun c _ => tag.size - (intOf c).toNat)
  case atStart => exact ⟨0, 0, Nat.zero_le _, rfl, rfl⟩
  case round =>
    obtain ⟨i, k, hi, rfl, rfl⟩ := hrel
    by_cases hlt : i < tag.size
    · have c1 := HC.out (pos + i) (by omega)
      rw [HT.out i hlt] at c1
      have q1 : (pos : Int) + (i : Int) < (n : Int) := by omega
      have q2 : (i : Int) < (tag.size : Int) := by omega
      go_wp2_with fail
      go_quiet (fail)
      go_wp2
      go_roundw
      case rel => exact ⟨i + 1, _, by omega, by go_num, rfl⟩
      case measure => simp [intOf]; omega
    · obtain rfl : i = tag.size := by omega
      have c1 := HC.out (pos + tag.size) (by omega)
      rw [HL.out] at c1
      have c2 := HO.out 0 (by omega)
      rw [Nat.add_zero] at c2
      have hb0 := HB.out 0
      have hz : ((bt (be 3 m) 0 : Nat) : Int) ≠ 0 := by have := HH.out; omega
      have hz' : (((bt (be 3 m) 0 : Nat) : Int) == 0) = false := by simpa using HH.out
      have ha := and_127 K (by omega)
      go_wp2_with fail
      go_loop [13, 15] (fun v c => ∃ j : Nat, j ≤ K ∧ c = .int .i64 j ∧ v = .int .i64 (vl m j : Nat)) (fun _ c => K - (intOf c).toNat)
      case atStart => exact ⟨0, Nat.zero_le _, rfl, rfl⟩
      case round =>
        obtain ⟨j, hj, rfl, rfl⟩ := hrel
        by_cases hlt : j < K
        · have c3 := HO.out j hlt
          have st := HS.out j hlt
          have vb := HV.out j
          have lb := HB.out j
          have hor := or_i64 (vl m j : Nat) (bt (be 3 m) j : Nat) (by omega) (by omega) (by omega) (by omega)
          have e1 : ((vl m j : Nat) : Int) * 256 + ((bt (be 3 m) j : Nat) : Int) = ((vl m (j + 1) : Nat) : Int) := by omega
          rw [e1] at hor
          clear st e1
          have q1 : (pos : Int) + (tag.size : Int) + 1 + (j : Int) < (n : Int) := by omega
          go_wp2
          go_round
          case rel => exact ⟨j + 1, by omega, by go_num, rfl⟩
          case measure => simp [intOf]; omega
        · obtain rfl : j = K := by omega
          rw [HE.out]
          have q1 : ¬ ((m : Int) < 128) := by omega
          go_wp2
          go_ret3
          exact ⟨by congr, _, rfl⟩
end Go.Proofs.Qxb6001432a
