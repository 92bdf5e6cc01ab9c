/-
  THE WALK OF FnHoldsBackMonotoneInHeld (8).
-/
import Derived.Test.Qxb6600061aBytes
import Derived.Test.Qxb6600061aHolds
namespace Go.Proofs.Qxb6600061a
open Go.RowKit Go.Maps

/-- What the walk is told of a slice of strings that came in. -/
structure IsStrs (w : World) (a : Option Addr) (len : Nat) (ss : List ByteArray) : Prop where
  row : Row Value.string ByteArray.empty w a ss
  size : ss.length = len
  max : len ≤ maxLen
  short : Short ss
structure IsBools (w : World) (a : Option Addr) (len : Nat) (bs : List Bool) : Prop where
  row : Row Value.bool false w a bs
  size : bs.length = len
  max : len ≤ maxLen

namespace fnHoldsBackMonotoneInHeld
set_option maxRecDepth 100000 in
set_option maxHeartbeats 1000000 in
theorem walk (a0 : Option Addr) (n0 c0 : Nat) (s0 : List ByteArray) (a1 : Option Addr) (n1 c1 : Nat) (s1 : List ByteArray) (a2 : Option Addr) (n2 c2 : Nat) (s2 : List Bool) (a3 : Option Addr) (n3 c3 : Nat) (s3 : List ByteArray) (w : World)
    (q0 : IsStrs w a0 n0 s0) (q1 : IsStrs w a1 n1 s1) (q2 : IsBools w a2 n2 s2) (q3 : IsStrs w a3 n3 s3) :
    Calls Try.prog 8 #[.slice a0 n0 c0, .slice a1 n1 c1, .slice a2 n2 c2, .slice a3 n3 c3] w fun e w' => e = .returned (.bool true) ∧ Below w.heap.size w w' := by
  go_enter Try.func8, Try.ntmps8
  go_wp2_with fail
  refine (zb28 w a0 n0 c0 s0 q0.row q0.size q0.max a1 n1 c1 s1 q1.row q1.size q1.max a2 n2 c2 q2.max a3 n3 c3 s3 q3.row q3.size q3.max).mono ?_
  rintro e w' ⟨r, rfl, rfl, hC⟩
  cases r
  · clear hC
    go_wp2
    go_ret
    exact ⟨rfl, Below.refl _ _⟩
  · obtain ⟨b0, b1, b2, b3⟩ := hC rfl
    clear hC
    go_wp2_with fail
    refine (hf_any w' a0 n0 c0 s0 q0.row q0.size b0 a1 n1 c1 s1 q1.row q1.size b1 a3 n3 c3 s3 q3.row q3.size b3 a2 n2 c2 b2).mono ?_
    rintro e w1 ⟨r, rfl, hw1⟩
    subst hw1
    cases r
    · go_wp2
      go_ret
      exact ⟨rfl, Below.refl _ _⟩
    · go_wp2_with fail
      refine (cs_any w1 a0 n0 c0 s0 q0.row q0.size b0).mono ?_
      rintro e w2 ⟨v0, rfl, o0, g2⟩
      go_wp2_with fail
      refine (cs_any w2 a1 n1 c1 s1 (q1.row.grown g2) q1.size b1).mono ?_
      rintro e w3 ⟨v1, rfl, o1, g3⟩
      have gg3 := grownBy_trans g2 g3 (.inl rfl)
      go_wp2_with fail
      refine (cb_any w3 a2 n2 c2 s2 (q2.row.grown gg3) q2.size b2).mono ?_
      rintro e w4 ⟨v2, rfl, o2, g4⟩
      have gg4 := grownBy_trans gg3 g4 (.inl rfl)
      go_wp2_with fail
      refine (cs_any w4 a3 n3 c3 s3 (q3.row.grown gg4) q3.size b3).mono ?_
      rintro e w5 ⟨v3, rfl, o3, g5⟩
      have gg5 := grownBy_trans gg4 g5 (.inl rfl)
      obtain ⟨x0, k0, hv0⟩ := ownsRow_shape o0
      obtain ⟨x1, k1, hv1⟩ := ownsRow_shape o1
      obtain ⟨x2, k2, hv2⟩ := ownsRow_shape o2
      obtain ⟨x3, k3, hv3⟩ := ownsRow_shape o3
      subst hv0; subst hv1; subst hv2; subst hv3
      have p0 : Row Value.string ByteArray.empty w5 x0 s0 := Row.of_own (kept0 (kept0 (kept0 o0 g3) g4) g5)
      have p1 : Row Value.string ByteArray.empty w5 x1 s1 := Row.of_own (kept0 (kept0 o1 g4) g5)
      have p2 : Row Value.bool false w5 x2 s2 := Row.of_own (kept0 o2 g5)
      have p3 : Row Value.string ByteArray.empty w5 x3 s3 := Row.of_own o3
      clear o0 o1 o2 o3 g2 g3 g4 g5 gg3 gg4
      go_wp2_with fail
      refine (bt_any w5 x0 n0 k0 s0 p0 q0.size b0 q0.short).mono ?_
      rintro e w6 ⟨rfl, m6, g6⟩
      go_wp2_with fail
      refine (bm_any w6 x1 n1 k1 s1 (p1.grown g6) q1.size b1 q1.short x2 n2 k2 s2 (p2.grown g6) q2.size b2).mono ?_
      rintro e w7 ⟨rfl, m7, g7⟩
      have gg7 := grownBy_trans g6 g7 (.inl rfl)
      go_wp2_with fail
      refine (bm_any w7 x1 n1 k1 s1 (p1.grown gg7) q1.size b1 q1.short x2 n2 k2 s2 (p2.grown gg7) q2.size b2).mono ?_
      rintro e w8 ⟨rfl, m8, g8⟩
      have M6 := Hid.intro (m6.kept0 g7)
      have M7 := Hid.intro m7
      have p3' := Hid.intro (p3.grown gg7)
      have gw7 := grownBy_trans gg5 gg7 (.inl rfl)
      have p0' := Hid.intro (p0.grown gg7)
      have H3 := Hid.intro q3.size
      have HS3 := Hid.intro q3.short
      have q0z := q0.size
      have q0s := q0.short
      have HZ := Hid.intro q0z
      clear m6 m7 q0 q1 q2 q3 p0 p1 p2 p3 gg5 gg7 g6 g7 q0z
      go_wp2_with fail
      go_loopw [12] (fun c wr => ∃ i : Nat, i ≤ n3 ∧ c = .int .i64 i ∧ IsM wr w7.heap.size (n1 + i) (fx (fm s1 s2 n1) s3 i) ∧ w7.grownBy wr none) (fun c _ => n3 - (intOf c).toNat)
      case atStart => exact ⟨0, Nat.zero_le _, rfl, m8, g8⟩
      case round =>
        obtain ⟨i, hi, rfl, hoi, hgi⟩ := hrel
        by_cases hlt : i < n3
        · obtain ⟨b, off, hx, hcell⟩ := p3'.out.at (by rw [H3.out]; omega)
          subst hx
          have hx' : wr.cell? ⟨b, off + i, none⟩ = some (.string (ga ByteArray.empty s3 i)) := hgi.cell (hcell i (by rw [H3.out]; exact hlt)) (by simp)
          clear hcell
          have hkey := key_of (ga ByteArray.empty s3 i) (HS3.out i)
          go_wp2_with (at_mapUpdate; go_loud (refine wpList_mapUpdate_own _ rfl _ _ _ 33 rfl 9 4 law Try.underlying33 _ w7.heap.size (n1 + i) _ rfl hoi (by unfold maxLen; omega) _ _ _ rfl rfl hkey _ [] (plainElem_bool Try.underlying4 true) ?_))
          intro y1 hown1 hgrow1
          go_wp2
          go_roundw
          case rel => exact ⟨i + 1, by omega, by go_num, hown1, grownBy_trans hgi hgrow1 (.inr fun k hk => by cases hk; exact Nat.le_refl _)⟩
          case measure => simp [intOf]; omega
        · obtain rfl : i = n3 := by omega
          have K6 := M6.out.kept0 hgi
          have K7 := M7.out.kept0 hgi
          go_wp2_with fail
          refine (zh_any wr w5.heap.size n0 _ K6 w6.heap.size n1 _ K7).mono ?_
          rintro e y1 ⟨r1, rfl, hr1, e1⟩
          cases r1
          · clear hr1 hoi K7
            have K6' := K6.kept0 e1
            have pp := (p0'.out.grown hgi).grown e1
            go_wp2_with fail
            refine (bt_any y1 x0 n0 k0 s0 pp HZ.out b0 q0s).mono ?_
            rintro e y2 ⟨rfl, m2, e2⟩
            go_wp2_with fail
            refine (zh_any y2 w5.heap.size n0 _ (K6'.kept0 e2) y1.heap.size n0 _ m2).mono ?_
            rintro e y3 ⟨r3, rfl, hr3, e3⟩
            obtain rfl : r3 = true := hr3.2 (HB_self s0 n0)
            clear hr3
            go_wp2
            go_ret
            exact ⟨rfl, below_of (grownBy_trans gw7 (grownBy_trans hgi (grownBy_trans e1 (grownBy_trans e2 e3 (.inl rfl)) (.inl rfl)) (.inl rfl)) (.inl rfl))⟩
          · have hb1 := hr1.1 rfl
            have hb2 := HB_mono (fm_isMap s1 s2 n1) s3 i hb1
            have HB2 := Hid.intro hb2
            clear hr1 hb1 hb2 K7
            have K6' := K6.kept0 e1
            have K8' := IsM.kept0 hoi e1
            go_wp2_with fail
            refine (zh_any y1 w5.heap.size n0 _ K6' w7.heap.size (n1 + i) _ K8').mono ?_
            rintro e y1' ⟨r2, rfl, hr2, e1'⟩
            obtain rfl : r2 = true := hr2.2 HB2.out
            clear hr2
            have K6'' := K6'.kept0 e1'
            have pp := ((p0'.out.grown hgi).grown e1).grown e1'
            go_wp2_with fail
            refine (bt_any y1' x0 n0 k0 s0 pp HZ.out b0 q0s).mono ?_
            rintro e y2 ⟨rfl, m2, e2⟩
            go_wp2_with fail
            refine (zh_any y2 w5.heap.size n0 _ (K6''.kept0 e2) y1'.heap.size n0 _ m2).mono ?_
            rintro e y3 ⟨r3, rfl, hr3, e3⟩
            obtain rfl : r3 = true := hr3.2 (HB_self s0 n0)
            clear hr3
            go_wp2
            go_ret
            exact ⟨rfl, below_of (grownBy_trans gw7 (grownBy_trans hgi (grownBy_trans e1 (grownBy_trans e1' (grownBy_trans e2 e3 (.inl rfl)) (.inl rfl)) (.inl rfl)) (.inl rfl)) (.inl rfl))⟩
end fnHoldsBackMonotoneInHeld
end Go.Proofs.Qxb6600061a
