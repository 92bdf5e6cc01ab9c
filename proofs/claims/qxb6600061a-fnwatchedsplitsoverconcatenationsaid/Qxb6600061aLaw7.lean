/-
  THE WALK OF FnWatchedSplitsOverConcatenation (6).
-/
import Derived.Test.Qxb6600061aJoin
import Derived.Test.Qxb6600061aZW
import Derived.Test.Qxb6600061aSpanFits
namespace Go.Proofs.Qxb6600061a
open Go.RowKit

/-- What the walk is told of a slice of spans that came in. -/
structure IsSpans (w : World) (a : Option Addr) (len : Nat) (l : List Sp) : Prop where
  row : SRow w a l
  size : l.length = len
  max : len ≤ maxLen

theorem W_map (l l' : List Sp) (h : l'.map Sp.wl = l.map Sp.wl) : W l' = W l := by
  unfold W
  rw [List.flatMap_def, List.flatMap_def, h]
theorem W_append (l l' : List Sp) : W (l ++ l') = W l ++ W l' := by simp [W]
theorem wsum_W (l : List Sp) (n : Nat) (hl : l.length = n) (hok : ∀ j, j < l.length → (ga dS l j).wl.length = (ga dS l j).wn) : wsum l n = (W l).length := by
  have := W_len l n (by omega) hok
  rw [← this, ← hl, List.take_length]
theorem wn_le (l : List Sp) (n j : Nat) (hj : j < n) : (ga dS l j).wn ≤ wsum l n :=
  Nat.le_trans (Nat.le_add_left _ _) (wsum_mono l (j + 1) n hj)
theorem SRow.cut {w : World} {b off : Nat} {l : List Sp} (h : SRow w (some ⟨b, off, none⟩) l) (i : Nat) (hi : i < l.length) : SRow w (some ⟨b, off + i * 4, none⟩) [ga dS l i] := by
  refine ⟨(fun hx => by cases hx), ?_, ?_⟩
  · intro x hx j hj
    cases hx
    obtain rfl : j = 0 := by simpa using hj
    have := h.cell _ rfl i hi
    simpa [Addr.add_lit, ga, List.getD, Nat.add_assoc] using this
  · intro j hj
    obtain rfl : j = 0 := by simpa using hj
    exact h.ok i hi

theorem zw_one (w : World) (g cap : Nat) (s : Sp) (hr : ZRow w g [s]) (hl : s.wl.length = s.wn) (hn : s.wn ≤ 1048576) :
    Calls Try.prog 25 #[.slice (some ⟨g, 0, none⟩) 1 cap] w fun e w' => ∃ A C, e = .returned (.slice A s.wn C) ∧ Row (Value.int .i64) 0 w' A s.wl ∧ w.grownBy w' none := by
  have hW : W [s] = s.wl := by simp [W]
  have hs : wsum [s] 1 = s.wn := by simp [wsum, ga]
  refine (zw_any w g 1 cap [s] hr rfl (by omega) (by rw [hs]; omega)).mono ?_
  rintro e w' ⟨v, rfl, ho, hg⟩
  rw [hW, hl] at ho
  obtain ⟨A, C, rfl⟩ := ownsRow_shape ho
  exact ⟨A, C, rfl, Row.of_own ho, hg⟩

theorem gi_left (l0 l1 : List Int) (j : Nat) (h : j < l0.length) : ga 0 (l0 ++ l1) j = ga 0 l0 j := by
  simp [ga, List.getD, List.getElem?_append_left h]
theorem gi_right (l0 l1 : List Int) (j : Nat) : ga 0 (l0 ++ l1) (l0.length + j) = ga 0 l1 j := by
  unfold ga List.getD
  rw [List.getElem?_append_right (by omega), Nat.add_sub_cancel_left]

namespace fnWatchedSplitsOverConcatenation
set_option maxRecDepth 100000 in
set_option maxHeartbeats 4000000 in
theorem walk (a0 : Option Addr) (n0 c0 : Nat) (l0 : List Sp) (a1 : Option Addr) (n1 c1 : Nat) (l1 : List Sp) (w : World) (q0 : IsSpans w a0 n0 l0) (q1 : IsSpans w a1 n1 l1) :
    Calls Try.prog 6 #[.slice a0 n0 c0, .slice a1 n1 c1] w fun e w' => e = .returned (.bool true) ∧ Below w.heap.size w w' := by
  go_enter Try.func6, Try.ntmps6
  go_wp2_with fail
  refine (zb24 w a0 n0 c0 l0 q0.row q0.size q0.max a1 n1 c1 l1 q1.row q1.size q1.max).mono ?_
  rintro e w' ⟨r, rfl, rfl, hC⟩
  cases r
  · clear hC
    go_wp2
    go_ret
    exact ⟨rfl, Below.refl _ _⟩
  · obtain ⟨b0, b1, bs⟩ := hC rfl
    clear hC
    go_wp2_with fail
    refine (sf_any w' a0 n0 c0 l0 q0.row q0.size b0 a1 n1 c1 l1 q1.row q1.size b1).mono ?_
    rintro e w1 ⟨r, rfl, hw1⟩
    subst hw1
    cases r
    · go_wp2
      go_ret
      exact ⟨rfl, Below.refl _ _⟩
    · have wn0 : ∀ j, j < l0.length → (ga dS l0 j).wn ≤ 1048576 := fun j hj => Nat.le_trans (wn_le l0 n0 j (by rw [← q0.size]; exact hj)) (by omega)
      have wn1 : ∀ j, j < l1.length → (ga dS l1 j).wn ≤ 1048576 := fun j hj => Nat.le_trans (wn_le l1 n1 j (by rw [← q1.size]; exact hj)) (by omega)
      have WN0 := Hid.intro wn0
      have WN1 := Hid.intro wn1
      have BS : Hid ((W l0).length + (W l1).length ≤ 1048576) := by
        have s0 := wsum_W l0 n0 q0.size (fun j hj => (q0.row.ok j hj).len)
        have s1 := wsum_W l1 n1 q1.size (fun j hj => (q1.row.ok j hj).len)
        rw [← s0, ← s1]; exact bs
      have Q0 := Hid.intro q0
      have Q1 := Hid.intro q1
      clear wn0 wn1 bs q0 q1
      go_wp2_with fail
      refine (cp_any w1 a0 n0 c0 l0 Q0.out.row Q0.out.size b0 WN0.out).mono ?_
      rintro e w2 ⟨x0, k0, rfl, p0, y0, t0, g2⟩
      go_wp2_with fail
      refine (cp_any w2 a1 n1 c1 l1 (Q1.out.row.grown g2) Q1.out.size b1 WN1.out).mono ?_
      rintro e w3 ⟨x1, k1, rfl, p1, y1, t1, g3⟩
      have gw3 := grownBy_trans g2 g3 (.inl rfl)
      have P0 := Hid.intro (p0.grown g3)
      have P1 := Hid.intro p1
      have Y0 := Hid.intro y0
      have Y1 := Hid.intro y1
      have T0 := W_map l0 k0 t0
      have T1 := W_map l1 k1 t1
      rw [← T0, ← T1] at BS
      have YJ : Hid ((k0 ++ k1).length = n0 + n1) := by show _ = _; rw [List.length_append, y0, y1]
      have wk0 : Hid (wsum k0 n0 = (W k0).length) := wsum_W k0 n0 y0 (fun j hj => (p0.ok j hj).len)
      have wk1 : Hid (wsum k1 n1 = (W k1).length) := wsum_W k1 n1 y1 (fun j hj => (p1.ok j hj).len)
      clear p0 p1 y0 y1 t0 t1 T0 T1 g2 g3 WN0 WN1 Q0 Q1
      go_wp2_with fail
      refine (js_any w3 x0 n0 n0 k0 P0.out Y0.out b0 x1 n1 n1 k1 P1.out Y1.out b1).mono ?_
      rintro e w4 ⟨xj, cj, rfl, pj, g4⟩
      have wkj : Hid (wsum (k0 ++ k1) (n0 + n1) = (W (k0 ++ k1)).length) := wsum_W (k0 ++ k1) (n0 + n1) YJ.out (fun j hj => (pj.ok j hj).len)
      have bj : Hid ((W (k0 ++ k1)).length ≤ 1048576) := by show _ ≤ _; rw [W_append, List.length_append]; exact BS.out
      have PJ := Hid.intro pj
      clear pj
      go_wp2_with fail
      refine (tz_any w4 xj (n0 + n1) cj (k0 ++ k1) PJ.out YJ.out (by omega)).mono ?_
      rintro e w5 ⟨rfl, zj, g5⟩
      have ZJ := Hid.intro zj
      clear zj
      go_wp2_with fail
      refine (zw_any w5 w4.heap.size (n0 + n1) (n0 + n1) (k0 ++ k1) ZJ.out YJ.out (by omega) (by rw [wkj.out]; exact Nat.le_trans bj.out (by omega))).mono ?_
      rintro e w6 ⟨v6, rfl, o6, g6⟩
      have gw6 := grownBy_trans gw3 (grownBy_trans g4 (grownBy_trans g5 g6 (.inl rfl)) (.inl rfl)) (.inl rfl)
      have g36 := grownBy_trans g4 (grownBy_trans g5 g6 (.inl rfl)) (.inl rfl)
      have O6 := Hid.intro o6
      clear o6 g4 g5 g6 gw3 PJ ZJ
      go_wp2_with fail
      refine (tz_any w6 x0 n0 n0 k0 (P0.out.grown g36) Y0.out (by omega)).mono ?_
      rintro e w7 ⟨rfl, z7, g7⟩
      have Z7 := Hid.intro z7
      clear z7
      go_wp2_with fail
      refine (zw_any w7 w6.heap.size n0 n0 k0 Z7.out Y0.out (by omega) (by rw [wk0.out]; exact Nat.le_trans (Nat.le_trans (Nat.le_add_right _ _) BS.out) (by omega))).mono ?_
      rintro e w8 ⟨v8, rfl, o8, g8⟩
      have g68 := grownBy_trans g7 g8 (.inl rfl)
      have g38 := grownBy_trans g36 g68 (.inl rfl)
      have O8 := Hid.intro o8
      clear o8 g7 g8
      go_wp2_with fail
      refine (tz_any w8 x1 n1 n1 k1 (P1.out.grown g38) Y1.out (by omega)).mono ?_
      rintro e w9 ⟨rfl, z9, g9⟩
      have Z9 := Hid.intro z9
      clear z9
      go_wp2_with fail
      refine (zw_any w9 w8.heap.size n1 n1 k1 Z9.out Y1.out (by omega) (by rw [wk1.out]; exact Nat.le_trans (Nat.le_trans (Nat.le_add_left _ _) BS.out) (by omega))).mono ?_
      rintro e w10 ⟨v10, rfl, o10, g10⟩
      have g810 := grownBy_trans g9 g10 (.inl rfl)
      have g310 := grownBy_trans g38 g810 (.inl rfl)
      have gw10 := grownBy_trans gw6 (grownBy_trans g68 g810 (.inl rfl)) (.inl rfl)
      obtain ⟨A6, C6, hv6⟩ := ownsRow_shape O6.out
      obtain ⟨A8, C8, hv8⟩ := ownsRow_shape O8.out
      obtain ⟨A10, C10, hv10⟩ := ownsRow_shape o10
      subst hv6; subst hv8; subst hv10
      have R6 : Row (Value.int .i64) 0 w10 A6 (W (k0 ++ k1)) := Row.of_own (kept0 (kept0 O6.out g68) g810)
      have R8 : Row (Value.int .i64) 0 w10 A8 (W k0) := Row.of_own (kept0 O8.out g810)
      have R10 : Row (Value.int .i64) 0 w10 A10 (W k1) := Row.of_own o10
      rw [W_append] at R6 ⊢
      have P0' := Hid.intro (P0.out.grown g310)
      have WN : Hid (∀ j, j < k0.length → (ga dS k0 j).wn ≤ 1048576) := fun j hj => by
        have h1 := wn_le k0 n0 j (by rw [← Y0.out]; exact hj)
        rw [wk0.out] at h1
        have h2 := BS.out
        omega
      have bs := BS.out
      clear o10 O6 O8 g9 g10 g36 g38 g68 g810 g310 gw6 P0 P1 wk0 wk1 wkj bj BS Z7 Z9 YJ Y1
      have GL := Hid.intro (gi_left (W k0) (W k1))
      have GR := Hid.intro (gi_right (W k0) (W k1))
      obtain ⟨X, hX⟩ : ∃ X, X = W k0 ++ W k1 := ⟨_, rfl⟩
      have LX : X.length = (W k0).length + (W k1).length := by rw [hX, List.length_append]
      rw [← hX] at GL GR R6 ⊢
      clear hX
      generalize W k0 = Y at *
      generalize W k1 = Z at *
      obtain ⟨nX, hnX⟩ : ∃ n, n = X.length := ⟨_, rfl⟩
      obtain ⟨nY, hnY⟩ : ∃ n, n = Y.length := ⟨_, rfl⟩
      obtain ⟨nZ, hnZ⟩ : ∃ n, n = Z.length := ⟨_, rfl⟩
      rw [← hnX, ← hnY, ← hnZ] at LX
      rw [← hnY, ← hnZ] at bs
      rw [← hnX, ← hnY, ← hnZ]
      subst LX
      have HX := Hid.intro hnX
      have HY := Hid.intro hnY
      have HZ := Hid.intro hnZ
      have RX := Hid.intro R6
      have RY := Hid.intro R8
      have RZ := Hid.intro R10
      clear hnX hnY hnZ R6 R8 R10
      go_wp2_with fail
      go_loopw [8] (fun c wr => ∃ i k : Nat, i ≤ nY ∧ c = .int .i64 i ∧ wr = w10.drewN k) (fun c _ => nY - (intOf c).toNat)
      case atStart => exact ⟨0, 0, Nat.zero_le _, rfl, rfl⟩
      case round =>
        obtain ⟨i, k, hi, rfl, rfl⟩ := hrel
        by_cases hlt : i < nY
        · obtain ⟨bx, ox, hx, hcx⟩ := RX.out.at (by rw [← HX.out]; omega)
          obtain ⟨by_, oy, hy, hcy⟩ := RY.out.at (by rw [← HY.out]; omega)
          subst hx; subst hy
          have e0 := hcx i (by rw [← HX.out]; omega)
          have e1 := hcy i (by rw [← HY.out]; exact hlt)
          rw [GL.out i (by rw [← HY.out]; exact hlt)] at e0
          generalize ga 0 Y i = z at e0 e1
          have q1 : (i : Int) < (nY : Int) := by omega
          have q2 : (i : Int) < ((nY + nZ : Nat) : Int) := by omega
          have q3 : (i : Int) < (nY : Int) + (nZ : Int) := by omega
          clear hcx hcy
          go_wp2_with fail
          go_quiet (fail)
          go_wp2
          go_roundw
          case rel => exact ⟨i + 1, _, by omega, by go_num, rfl⟩
          case measure => simp [intOf]; omega
        · obtain rfl : i = nY := by omega
          go_wp2_with fail
          go_loopw [9] (fun c wr => ∃ j k : Nat, j ≤ nZ ∧ c = .int .i64 j ∧ wr = w10.drewN k) (fun c _ => nZ - (intOf c).toNat)
          case atStart => exact ⟨0, k, Nat.zero_le _, rfl, rfl⟩
          case round =>
            obtain ⟨j, k', hj, rfl, rfl⟩ := hrel
            by_cases hlt1 : j < nZ
            · obtain ⟨bx, ox, hx, hcx⟩ := RX.out.at (by rw [← HX.out]; omega)
              obtain ⟨by_, oy, hy, hcy⟩ := RZ.out.at (by rw [← HZ.out]; omega)
              subst hx; subst hy
              have e0 := hcx (i + j) (by rw [← HX.out]; omega)
              have e1 := hcy j (by rw [← HZ.out]; exact hlt1)
              have hga := GR.out j
              rw [← HY.out] at hga
              rw [hga] at e0
              generalize ga 0 Z j = z at e0 e1
              have q1 : (j : Int) < (nZ : Int) := by omega
              have q3 : (i : Int) + (j : Int) < (i : Int) + (nZ : Int) := by omega
              clear hcx hcy hga
              go_wp2_with fail
              go_quiet (fail)
              go_wp2
              go_roundw
              case rel => exact ⟨j + 1, _, by omega, by go_num, rfl⟩
              case measure => simp [intOf]; omega
            · obtain rfl : j = nZ := by omega
              have hgk : w10.grownBy (w10.drewN k') none := grown_drewN (World.grownBy.refl _ _) k'
              go_wp2_with fail
              go_loopw [10] (fun c wr => ∃ m : Nat, m ≤ n0 ∧ c = .int .i64 m ∧ w10.grownBy wr none) (fun c _ => n0 - (intOf c).toNat)
              case atStart => exact ⟨0, Nat.zero_le _, rfl, hgk⟩
              case round =>
                obtain ⟨m, hm, rfl, hgm⟩ := hrel
                by_cases hlt2 : m < n0
                · obtain ⟨bx, ox, hx, hcx⟩ := P0'.out.at (by rw [Y0.out]; omega)
                  subst hx
                  have d3 := hgm.cell (hcx m (by rw [Y0.out]; exact hlt2)).2.2.2 (by simp)
                  have hcut := (P0'.out.cut m (by rw [Y0.out]; exact hlt2)).grown hgm
                  have hok := (P0'.out.ok m (by rw [Y0.out]; exact hlt2)).grown hgm
                  have hwn := WN.out m (by rw [Y0.out]; exact hlt2)
                  generalize ga dS k0 m = s at *
                  have HCUT := Hid.intro hcut
                  have HOK := Hid.intro hok
                  have q1 : (m : Int) < (n0 : Int) := by omega
                  have q2 : (m : Int) + 1 ≤ (n0 : Int) := by omega
                  have r3 : ∀ wx, wr.grownBy wx none → wx.cell? ⟨bx, ox + m * 4 + 3, none⟩ = some (.slice s.wa s.wn s.wc) := fun wx hg => hg.cell d3 (by simp)
                  have HGM := Hid.intro hgm
                  have u0 : (0 : Int) ≤ (m : Int) := by omega
                  have u1 : (m : Int) ≤ (m : Int) + 1 := by omega
                  have u2 : ¬ n0 = m := by omega
                  have u3 : ((m : Int) + 1).toNat = m + 1 := by omega
                  have hwr : IntKind.i64.wrap ((m : Int) + 1) = (m : Int) + 1 := by rw [IntKind.wrap_i64]; omega
                  clear hcx d3 hcut hok hgm hgk
                  go_wp2_with fail
                  go_region_held3 (fun wx => wr.grownBy wx none) (first | exact grown_drew (World.grownBy.refl _ _) | assumption | exact grownBy_trans (by assumption) (by assumption) (.inl rfl) | exact grown_drewN (by assumption) _)
                    (first
                      | (go_at_call 15; refine (tz_any _ (some ⟨bx, ox + m * 4, none⟩) 1 _ [s] (HCUT.out.grown (by assumption)) rfl (by omega)).mono ?_; rintro e wy ⟨rfl, hzy, hgy⟩)
                      | (go_at_call 25; refine (zw_one _ _ _ s (by assumption) HOK.out.len hwn).mono ?_; rintro e wz ⟨A, C, rfl, hrz, hgz⟩)
                      | (go_at_call 26; refine (eq_any _ _ _ _ _ s.wn s.wl HOK.out.len (by assumption) (HOK.out.row.grown (by assumption)) (by omega)).mono ?_; rintro e wq ⟨rfl, kq, rfl⟩))
                  go_wp2
                  go_roundw
                  case rel => exact ⟨m + 1, by omega, by go_num, grownBy_trans HGM.out (by assumption) (.inl rfl)⟩
                  case measure => simp [intOf]; omega
                · have hbel := below_of (grownBy_trans gw10 hgm (.inl rfl))
                  go_wp2
                  go_ret
                  exact ⟨rfl, hbel⟩
end fnWatchedSplitsOverConcatenation
end Go.Proofs.Qxb6600061a
