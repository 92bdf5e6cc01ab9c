/-
  THE WALK OF zzSeqHolds (23).
-/
import Derived.Test.Qxb6001432aLaw3
import Derived.Test.Qxb6001432aSeq
namespace Go.Proofs.Qxb6001432a
open Go.RowKit

theorem Buf.grown {w w' : World} {g n : Nat} {l : List Nat} (h : Buf w g n l) (hg : w.grownBy w' none) : Buf w' g n l := ⟨h.len, h.byte, fun j hj => hg.cell (h.cell j hj) (by simp)⟩
theorem grown_drewN {w w' : World} {r : Option Nat} (h : w.grownBy w' r) (k : Nat) : w.grownBy (w'.drewN k) r := ⟨h.os, h.tape, h.output, h.size, h.block⟩
theorem encs_split (xs : List Int) (k : Nat) (h : k < xs.length) : encs xs = encs (xs.take k) ++ enc two (ibytes (bi xs k)) ++ encs (xs.drop (k + 1)) := by
  have e : xs = xs.take k ++ [bi xs k] ++ xs.drop (k + 1) := by
    rw [← take_bi xs k h, List.take_append_drop]
  have : encs xs = encs (xs.take k ++ [bi xs k] ++ xs.drop (k + 1)) := by rw [← e]
  rw [this]
  simp [encs, encI]

set_option maxRecDepth 100000 in
theorem sh_any (w : World) (g n cap : Nat) (pre post : List Nat) (x0 x1 x2 x3 x4 x5 x6 x7 : Int) (hx : Ints [x0, x1, x2, x3, x4, x5, x6, x7])
    (hb : Buf w g n (pre ++ encs [x0, x1, x2, x3, x4, x5, x6, x7] ++ post)) (s' e' : Int) (hs : s' = (pre.length : Int)) (he : e' = ((pre.length + (encs [x0, x1, x2, x3, x4, x5, x6, x7]).length : Nat) : Int)) (hn : n ≤ 1073741824) :
    Calls Try.prog 23 #[.slice (some ⟨g, 0, none⟩) n cap, .int .i64 s', .int .i64 e', .agg #[.int .i64 x0, .int .i64 x1, .int .i64 x2, .int .i64 x3, .int .i64 x4, .int .i64 x5, .int .i64 x6, .int .i64 x7]] w fun e w' =>
      e = .returned (.bool true) ∧ w.grownBy w' none := by
  obtain ⟨xs, hxs⟩ : ∃ xs, xs = [x0, x1, x2, x3, x4, x5, x6, x7] := ⟨_, rfl⟩
  have h8 : xs.length = 8 := by rw [hxs]; rfl
  rw [← hxs] at hx hb he
  have HX : Hid (xs = [x0, x1, x2, x3, x4, x5, x6, x7]) := hxs
  have HI : Hid (Ints xs) := hx
  have H8 : Hid (xs.length = 8) := h8
  obtain ⟨E, hE⟩ : ∃ E, E = pre.length + (encs xs).length := ⟨_, rfl⟩
  rw [← hE] at he
  have hEn : E ≤ n := by have := hb.len; simp only [List.length_append] at this; omega
  have HE : Hid (E = pre.length + (encs xs).length) := hE
  subst hs; subst he
  clear hxs hx h8 hE
  go_enter Try.func23, Try.ntmps23
  go_wp2_with fail
  go_loopw [10, 11] (fun p c wr => ∃ k : Nat, k ≤ 8 ∧ c = .int .i64 k ∧ p = .int .i64 ((pre.length + (encs (xs.take k)).length : Nat) : Int) ∧ w.grownBy wr none ∧
      ∀ j, j < 8 → wr.cell? ⟨w.heap.size + 1, j, none⟩ = some (.int .i64 (bi xs j))) (fun _ c _ => 8 - (intOf c).toNat)
  case atStart =>
    refine ⟨0, by omega, rfl, rfl, grownBy_trans (World.grownBy_alloc _ _ none) (World.grownBy_alloc _ _ none) (.inl rfl), ?_⟩
    intro j hj
    rw [HX.out]
    have hc : ∀ (O : Obj) (C : Array Value) (t : TypeId), ((w.alloc O).alloc (.cells C t)).cell? ⟨w.heap.size + 1, j, none⟩ = C[j]? := fun O C t => by
      have := World.cell?_alloc_new (w.alloc O) C t j
      rwa [show (w.alloc O).heap.size = w.heap.size + 1 by simp] at this
    rw [hc]
    obtain rfl | rfl | rfl | rfl | rfl | rfl | rfl | rfl : j = 0 ∨ j = 1 ∨ j = 2 ∨ j = 3 ∨ j = 4 ∨ j = 5 ∨ j = 6 ∨ j = 7 := by omega
    all_goals rfl
  case round =>
    obtain ⟨k, hk, rfl, rfl, hg, hc⟩ := hrel
    by_cases hlt : k < 8
    · have hsp := encs_split xs k (by rw [H8.out]; exact hlt)
      have hbw := hb.grown hg
      rw [hsp, show pre ++ (encs (xs.take k) ++ enc two (ibytes (bi xs k)) ++ encs (xs.drop (k + 1))) ++ post = (pre ++ encs (xs.take k)) ++ enc two (ibytes (bi xs k)) ++ (encs (xs.drop (k + 1)) ++ post) by simp [List.append_assoc]] at hbw
      have hlen : (pre ++ encs (xs.take k)).length = pre.length + (encs (xs.take k)).length := List.length_append
      have hlim : pre.length + (encs (xs.take k)).length + (enc two (ibytes (bi xs k))).length ≤ E := by
        have h1 := congrArg List.length hsp
        simp only [List.length_append] at h1
        have := HE.out
        omega
      have hnx : (encs (xs.take (k + 1))).length = (encs (xs.take k)).length + (enc two (ibytes (bi xs k))).length := by
        rw [take_bi xs k (by rw [H8.out]; exact hlt), encs_snoc, List.length_append]; rfl
      have hx1 := (HI.out k).1
      have hx2 := (HI.out k).2
      have hbd := ilen_bd (bi xs k)
      have hil := ibytes_length (bi xs k)
      have hEl := elem_at wr g n cap (pre ++ encs (xs.take k)) (ibytes (bi xs k)) (encs (xs.drop (k + 1)) ++ post) two hbw _ (E : Int) rfl E rfl (by rw [hlen]; exact hlim) hEn hn (by omega)
      have hct := fun j hj => bt_contents (pre ++ encs (xs.take k)) (ibytes (bi xs k)) (encs (xs.drop (k + 1)) ++ post) two j hj
      have hehd := enc_hd two (ibytes (bi xs k))
      rw [hlen] at hEl hct
      have hck := hc k hlt
      have HC : Hid (∀ j, j < 8 → wr.cell? ⟨w.heap.size + 1, j, none⟩ = some (.int .i64 (bi xs j))) := hc
      clear hc
      generalize hL : pre ++ encs (xs.take k) ++ enc two (ibytes (bi xs k)) ++ (encs (xs.drop (k + 1)) ++ post) = L at hbw hct
      clear hL
      obtain ⟨S, hS⟩ : ∃ S, S = pre.length + (encs (xs.take k)).length + hd two (ibytes (bi xs k)).length := ⟨_, rfl⟩
      obtain ⟨P, hP⟩ : ∃ P, P = pre.length + (encs (xs.take k)).length + (enc two (ibytes (bi xs k))).length := ⟨_, rfl⟩
      have hSP : S + ilen (bi xs k) = P := by omega
      have hPn : P ≤ n := by omega
      rw [← hS, ← hP] at hEl
      rw [← hS] at hct
      have HP : Hid (P = pre.length + (encs (xs.take (k + 1))).length) := by show P = _; omega
      have hib : ∀ j, j < ilen (bi xs k) → bt L (S + j) = ib (bi xs k) (ilen (bi xs k)) j := fun j hj => by rw [hct j (by omega)]; exact bt_ibytes _ _ hj
      have hmn : S + 1 < P → ¬ (bt L S = 0 ∧ bt L (S + 1) < 128) ∧ ¬ (bt L S = 255 ∧ 128 ≤ bt L (S + 1)) := by
        intro h
        have q0 := hib 0 (by omega)
        have q1 := hib 1 (by omega)
        rw [Nat.add_zero] at q0
        rw [q0, q1]
        exact ib_min _ hx1 hx2 (by omega)
      have HS : Hid (S + ilen (bi xs k) = P) := hSP
      have HIB : Hid (∀ j, j < ilen (bi xs k) → bt L (S + j) = ib (bi xs k) (ilen (bi xs k)) j) := hib
      have HMN : Hid (S + 1 < P → ¬ (bt L S = 0 ∧ bt L (S + 1) < 128) ∧ ¬ (bt L S = 255 ∧ 128 ≤ bt L (S + 1))) := hmn
      have hSP' : S ≤ P := by omega
      clear hsp hlen hlim hnx hil hct hehd hS hP hSP hib hmn
      go_wp2_with fail
      refine hEl.mono ?_
      rintro e w1 ⟨rfl, q1, rfl⟩
      clear hEl
      go_wp2_with fail
      refine (min_any (wr.drewN q1) g n cap L (hbw.drewN q1) S P _ _ rfl rfl hSP' hPn hn HMN.out).mono ?_
      rintro e w2 ⟨rfl, rfl⟩
      go_wp2_with fail
      refine (int_any (wr.drewN q1) g n cap L (hbw.drewN q1) (bi xs k) hx1 hx2 S _ _ rfl (by have := HS.out; omega) (by have := HS.out; omega) hn HIB.out).mono ?_
      rintro e w3 ⟨rfl, rfl⟩
      go_wp2
      go_roundw
      case rel => exact ⟨k + 1, by omega, by go_num, by rw [HP.out], grown_drewN hg q1, HC.out⟩
      case measure => simp [intOf]; omega
    · obtain rfl : k = 8 := by omega
      have htk : xs.take 8 = xs := List.take_of_length_le (by rw [H8.out]; omega)
      have hEE : ((pre.length + (encs (xs.take 8)).length : Nat) : Int) = (E : Int) := by rw [htk, HE.out]
      rw [hEE]
      clear hEE htk hc
      go_wp2
      go_ret
      exact ⟨rfl, hg⟩
end Go.Proofs.Qxb6001432a
