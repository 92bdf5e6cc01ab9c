/-
  THE WALK OF FnHoldsBackOverUnion (9).
-/
import Derived.Test.Qxb6600061aLaw5
namespace Go.Proofs.Qxb6600061a
open Go.RowKit Go.Maps

namespace fnHoldsBackOverUnion
set_option maxRecDepth 100000 in
set_option maxHeartbeats 1000000 in
theorem walk (a0 : Option Addr) (n0 c0 : Nat) (s0 : List ByteArray) (a1 : Option Addr) (n1 c1 : Nat) (s1 : List ByteArray) (a2 : Option Addr) (n2 c2 : Nat) (s2 : List ByteArray) (a3 : Option Addr) (n3 c3 : Nat) (s3 : List Bool) (w : World)
    (q0 : IsStrs w a0 n0 s0) (q1 : IsStrs w a1 n1 s1) (q2 : IsStrs w a2 n2 s2) (q3 : IsBools w a3 n3 s3) :
    Calls Try.prog 9 #[.slice a0 n0 c0, .slice a1 n1 c1, .slice a2 n2 c2, .slice a3 n3 c3] w fun e w' => e = .returned (.bool true) ∧ Below w.heap.size w w' := by
  have hmm := @run_makeMap Try.prog
  have HMM := Hid.intro hmm
  clear hmm
  go_enter Try.func9, Try.ntmps9
  go_wp2_with fail
  refine (zb35 w a0 n0 c0 s0 q0.row q0.size q0.max a1 n1 c1 s1 q1.row q1.size q1.max a2 n2 c2 s2 q2.row q2.size q2.max a3 n3 c3 q3.max).mono ?_
  rintro e w' ⟨r, rfl, rfl, hC⟩
  cases r
  · clear hC
    go_wp2
    go_ret
    exact ⟨rfl, Below.refl _ _⟩
  · obtain ⟨b0, b1, b2, b3⟩ := hC rfl
    clear hC
    go_wp2_with fail
    refine (hf_any w' a0 n0 c0 s0 q0.row q0.size b0 a1 n1 c1 s1 q1.row q1.size b1 a2 n2 c2 s2 q2.row q2.size b2 a3 n3 c3 b3).mono ?_
    rintro e w1 ⟨r, rfl, hw1⟩
    subst hw1
    cases r
    · go_wp2
      go_ret
      exact ⟨rfl, Below.refl _ _⟩
    · go_wp2_with fail
      refine (cs_any w1 a0 n0 c0 s0 q0.row q0.size b0).mono ?_
      rintro e w2 ⟨v0, rfl, o0, g2⟩
      go_wp2_with fail
      refine (cs_any w2 a1 n1 c1 s1 (q1.row.grown g2) q1.size b1).mono ?_
      rintro e w3 ⟨v1, rfl, o1, g3⟩
      have gg3 := grownBy_trans g2 g3 (.inl rfl)
      go_wp2_with fail
      refine (cs_any w3 a2 n2 c2 s2 (q2.row.grown gg3) q2.size b2).mono ?_
      rintro e w4 ⟨v2, rfl, o2, g4⟩
      have gg4 := grownBy_trans gg3 g4 (.inl rfl)
      go_wp2_with fail
      refine (cb_any w4 a3 n3 c3 s3 (q3.row.grown gg4) q3.size b3).mono ?_
      rintro e w5 ⟨v3, rfl, o3, g5⟩
      have gg5 := grownBy_trans gg4 g5 (.inl rfl)
      obtain ⟨x0, k0, hv0⟩ := ownsRow_shape o0
      obtain ⟨x1, k1, hv1⟩ := ownsRow_shape o1
      obtain ⟨x2, k2, hv2⟩ := ownsRow_shape o2
      obtain ⟨x3, k3, hv3⟩ := ownsRow_shape o3
      subst hv0; subst hv1; subst hv2; subst hv3
      have p0 : Row Value.string ByteArray.empty w5 x0 s0 := Row.of_own (kept0 (kept0 (kept0 o0 g3) g4) g5)
      have p1 : Row Value.string ByteArray.empty w5 x1 s1 := Row.of_own (kept0 (kept0 o1 g4) g5)
      have p2 : Row Value.string ByteArray.empty w5 x2 s2 := Row.of_own (kept0 o2 g5)
      have p3 : Row Value.bool false w5 x3 s3 := Row.of_own o3
      clear o0 o1 o2 o3 g2 g3 g4 g5 gg3 gg4
      go_wp2_with fail
      refine (bm_any w5 x2 n2 k2 s2 p2 q2.size b2 q2.short x3 n3 k3 s3 p3 q3.size b3).mono ?_
      rintro e w6 ⟨rfl, m6, g6⟩
      have hmm := HMM.out
      have mE : IsM (w6.alloc (.map #[] 0)) w6.heap.size 0 (.map []) := World.ownsMap_made _ _ _ _
      have m6' : IsM (w6.alloc (.map #[] 0)) w5.heap.size n2 (fm s2 s3 n2) := World.ownsMap.alloc m6 _
      go_wp2_with fail
      clear hmm
      refine (zh_any (w6.alloc (.map #[] 0)) w6.heap.size 0 _ mE w5.heap.size n2 _ m6').mono ?_
      rintro e w7 ⟨r1, rfl, hr1, g7⟩
      obtain rfl : r1 = true := hr1.2 (HB_empty _)
      clear hr1 mE m6'
      have g67 := grownBy_trans (World.grownBy_alloc w6 (.map #[] 0) none) g7 (.inl rfl)
      go_wp2_with fail
      refine (zh_nil w7 w5.heap.size).mono ?_
      rintro e w8 ⟨rfl, g8⟩
      have g68 := grownBy_trans g67 g8 (.inl rfl)
      have g58 := grownBy_trans g6 g68 (.inl rfl)
      have mH := m6.kept0 g68
      clear m6 g7 g67 g8 p2 p3
      go_wp2_with fail
      refine (bt_any w8 x0 n0 k0 s0 (p0.grown g58) q0.size b0 q0.short).mono ?_
      rintro e w9 ⟨rfl, m9, g9⟩
      have g59 := grownBy_trans g58 g9 (.inl rfl)
      go_wp2_with fail
      refine (bt_any w9 x1 n1 k1 s1 (p1.grown g59) q1.size b1 q1.short).mono ?_
      rintro e w10 ⟨rfl, m10, g10⟩
      have g510 := grownBy_trans g59 g10 (.inl rfl)
      go_wp2_with fail
      refine (bt_any w10 x0 n0 k0 s0 (p0.grown g510) q0.size b0 q0.short).mono ?_
      rintro e w11 ⟨rfl, m11, g11⟩
      have MH := Hid.intro ((mH.kept0 g9).kept0 g10)
      have M9 := Hid.intro (m9.kept0 g10)
      have M10 := Hid.intro m10
      have p1' := Hid.intro (p1.grown g510)
      have gw10 := grownBy_trans gg5 g510 (.inl rfl)
      have H1 := Hid.intro q1.size
      have HS1 := Hid.intro q1.short
      clear mH m9 m10 q0 q1 q2 q3 p0 p1 gg5 g6 g68 g58 g59 g510 g9 g10
      go_wp2_with fail
      go_loopw [13] (fun c wr => ∃ i : Nat, i ≤ n1 ∧ c = .int .i64 i ∧ IsM wr w10.heap.size (n0 + i) (fx (fx (.map []) s0 n0) s1 i) ∧ w10.grownBy wr none) (fun c _ => n1 - (intOf c).toNat)
      case atStart => exact ⟨0, Nat.zero_le _, rfl, m11, g11⟩
      case round =>
        obtain ⟨i, hi, rfl, hoi, hgi⟩ := hrel
        by_cases hlt : i < n1
        · obtain ⟨b, off, hx, hcell⟩ := p1'.out.at (by rw [H1.out]; omega)
          subst hx
          have hx' : wr.cell? ⟨b, off + i, none⟩ = some (.string (ga ByteArray.empty s1 i)) := hgi.cell (hcell i (by rw [H1.out]; exact hlt)) (by simp)
          clear hcell
          have hkey := key_of (ga ByteArray.empty s1 i) (HS1.out i)
          go_wp2_with (at_mapUpdate; go_loud (refine wpList_mapUpdate_own _ rfl _ _ _ 33 rfl 9 4 law Try.underlying33 _ w10.heap.size (n0 + i) _ rfl hoi (by unfold maxLen; omega) _ _ _ rfl rfl hkey _ [] (plainElem_bool Try.underlying4 true) ?_))
          intro y1 hown1 hgrow1
          go_wp2
          go_roundw
          case rel => exact ⟨i + 1, by omega, by go_num, hown1, grownBy_trans hgi hgrow1 (.inr fun k hk => by cases hk; exact Nat.le_refl _)⟩
          case measure => simp [intOf]; omega
        · obtain rfl : i = n1 := by omega
          have KH := MH.out.kept0 hgi
          have K9 := M9.out.kept0 hgi
          have K10 := M10.out.kept0 hgi
          have hun := HB_union s0 s1 n0 i (fm s2 s3 n2)
          have HUN := Hid.intro hun
          clear hun
          go_wp2_with fail
          refine (zh_any wr w10.heap.size (n0 + i) _ hoi w5.heap.size n2 _ KH).mono ?_
          rintro e y1 ⟨r1, rfl, hr1, e1⟩
          have HR1 := Hid.intro hr1
          clear hr1 hoi
          go_wp2_with fail
          refine (zh_any y1 w8.heap.size n0 _ (K9.kept0 e1) w5.heap.size n2 _ (KH.kept0 e1)).mono ?_
          rintro e y2 ⟨r2, rfl, hr2, e2⟩
          have HR2 := Hid.intro hr2
          clear hr2
          cases r2
          · obtain rfl : r1 = false := by
              cases r1
              · rfl
              · have := (HUN.out.1 (HR1.out.1 rfl)).1
                have := HR2.out.2 this
                cases this
            go_wp2
            go_ret
            exact ⟨rfl, below_of (grownBy_trans gw10 (grownBy_trans hgi (grownBy_trans e1 e2 (.inl rfl)) (.inl rfl)) (.inl rfl))⟩
          · go_wp2_with fail
            refine (zh_any y2 w9.heap.size i _ ((K10.kept0 e1).kept0 e2) w5.heap.size n2 _ ((KH.kept0 e1).kept0 e2)).mono ?_
            rintro e y3 ⟨r3, rfl, hr3, e3⟩
            have hrr : r1 = r3 := by
              have h2 := HR2.out.1 (by trivial)
              rw [Bool.eq_iff_iff, HR1.out, hr3, HUN.out]
              exact ⟨fun h => h.2, fun h => ⟨h2, h⟩⟩
            subst hrr
            clear hr3 HR1 HR2
            go_wp2
            go_ret
            exact ⟨by simp, below_of (grownBy_trans gw10 (grownBy_trans hgi (grownBy_trans e1 (grownBy_trans e2 e3 (.inl rfl)) (.inl rfl)) (.inl rfl)) (.inl rfl))⟩
end fnHoldsBackOverUnion
end Go.Proofs.Qxb6600061a
