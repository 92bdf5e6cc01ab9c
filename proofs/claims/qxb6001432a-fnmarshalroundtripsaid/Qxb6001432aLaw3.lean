/-
  THE WALK OF FnAppendIntegerRoundTrip (3).
-/
import Derived.Test.Qxb6001432aLaw2
import Derived.Test.Qxb6001432aInteger
namespace Go.Proofs.Qxb6001432a
open Go.RowKit

theorem bt_ibytes (x : Int) (j : Nat) (h : j < ilen x) : bt (ibytes x) j = ib x (ilen x) j := by simp [bt, ibytes, List.getD, h]
theorem ibytes_byte (x : Int) : ∀ y ∈ ibytes x, y < 256 := by
  intro y hy
  obtain ⟨j, _, rfl⟩ := List.mem_map.1 hy
  exact ib_lt _ _ _

set_option maxRecDepth 100000 in
theorem zb9_no (w : World) (a0 : Option Addr) (n0 c0 : Nat) (v : Value) (h : ¬ n0 ≤ 1048576) :
    Calls Try.prog 9 #[.slice a0 n0 c0, v] w fun e w' => e = .returned (.bool false) ∧ w' = w := by
  have q : (1048576 : Int) < (n0 : Int) := by omega
  go_enter Try.func9, Try.ntmps9
  go_wp2
  go_ret
  exact ⟨rfl, rfl⟩
set_option maxRecDepth 100000 in
theorem zb9_yes (w : World) (a0 : Option Addr) (n0 c0 : Nat) (v : Value) (h : n0 ≤ 1048576) :
    Calls Try.prog 9 #[.slice a0 n0 c0, v] w fun e w' => e = .returned (.bool true) ∧ w' = w := by
  have q : ¬ (1048576 : Int) < (n0 : Int) := by omega
  go_enter Try.func9, Try.ntmps9
  go_wp2
  go_ret
  exact ⟨rfl, rfl⟩

namespace fnAppendIntegerRoundTrip
set_option maxRecDepth 100000 in
theorem walk (a0 : Option Addr) (len0 cap0 : Nat) (z0 : List Int) (a1 : Int) (w : World) (w0 : IsRow .u8 w a0 len0 cap0 z0) (w1 : (Lit.int .i64 a1).wf = true) :
    Calls Try.prog 3 #[.slice a0 len0 cap0, .int .i64 a1] w fun e w' => e = .returned (.bool true) ∧ Below w.heap.size w w' := by
  have i0 := w0.inp
  obtain ⟨hx0, hx1⟩ := bounds_i64 w1
  generalize bytesIn len0 z0 = l0 at i0
  by_cases hsum : len0 ≤ 1048576
  · have hyes := zb9_yes w a0 len0 cap0 (.int .i64 a1) hsum
    clear w0 w1
    go_enter Try.func3, Try.ntmps3
    go_wp2_with fail
    refine hyes.mono ?_
    rintro e w' ⟨rfl, rfl⟩
    go_wp2_with fail
    refine (clone_any w' a0 len0 cap0 l0 i0 (by omega)).mono ?_
    rintro e w1 ⟨v0, rfl, o0, g0⟩
    go_wp2_with (first | (go_at_call 11; go_in) | fail)
    refine (ai_any w1 w'.heap.size v0 len0 l0 o0 g0.size a1 hx0 hx1 (by omega)).mono ?_
    rintro e w3 ⟨v3, rfl, h3⟩
    have hle := encI_length a1
    have hbd := ilen_bd a1
    have hi0 := i0.size
    have hown := h3.own
    rw [← B_append] at hown
    obtain ⟨n, hn⟩ : ∃ n, len0 + (encI a1).length = n := ⟨_, rfl⟩
    rw [hn] at hown
    have hn0 : 0 < n := by omega
    have hn1 : n ≤ 1073741824 := by omega
    have hn2 : len0 + 3 ≤ n := by omega
    have hn3 : n ≤ len0 + 10 := by omega
    obtain ⟨g, cap, hv⟩ := own_some hown hn0
    subst hv
    have hby : ∀ x ∈ l0 ++ encI a1, x < 256 := by
      intro x hx
      rcases List.mem_append.1 hx with hx | hx
      · exact i0.byte x hx
      · exact encI_byte a1 x hx
    have hbuf := Buf.of_own hown hby
    obtain ⟨ay, cy, hv0⟩ := ownsRow_shape o0
    subst hv0
    have hbel : Below w'.heap.size w' w3 := (below_of g0).trans ((Below.refl _ _).grown h3.grown g0.size (fun k hk => (o0.lt k hk).1))
    have o0'' := h3.old
    have HN : Hid (len0 + (enc two (ibytes a1)).length = n) := hn
    have H0 : Hid (l0.length = len0) := hi0
    have H2 : Hid ((ibytes a1).length = ilen a1) := ibytes_length a1
    clear hn hi0 hle hown
    go_wp2_with fail
    refine (same_any w3 g n cap (l0 ++ encI a1) hbuf 0 len0 _ _ rfl rfl w'.heap.size _ len0 l0 o0'' i0.byte (by omega) (by omega) hn1 (fun j hj => by rw [Nat.zero_add]; exact bt_left _ _ _ (by rw [H0.out]; exact hj))).mono ?_
    rintro e w4 ⟨rfl, k4, rfl⟩
    go_wp2_with fail
    have hE := elem_at (w3.drewN k4) g n cap l0 (ibytes a1) [] two (by rw [List.append_nil]; exact hbuf.drewN k4) (len0 : Int) (n : Int) (by rw [H0.out]) n rfl (by rw [H0.out, HN.out]; omega) (Nat.le_refl _) hn1 (by rw [H2.out]; omega)
    have hct := fun j hj => bt_contents l0 (ibytes a1) [] two j hj
    rw [H0.out, HN.out] at hE
    rw [H0.out] at hct
    simp only [List.append_nil] at hct
    have hSn : len0 + hd two (ibytes a1).length + ilen a1 = n := by have h1 := HN.out; rw [enc_hd, H2.out] at h1; rw [H2.out]; omega
    generalize len0 + hd two (ibytes a1).length = S at hE hct hSn
    refine hE.mono ?_
    rintro e w5 ⟨rfl, k5, rfl⟩
    have HS : Hid (S + ilen a1 = n) := hSn
    clear hSn hE
    go_wp2_with fail
    refine (int_any (w3.drewN (k4 + k5)) g n cap (l0 ++ encI a1) (hbuf.drewN (k4 + k5)) a1 hx0 hx1 S _ _ rfl (by have := HS.out; omega) (by have := HS.out; omega) hn1 (fun j hj => by
      rw [← bt_ibytes a1 j hj]; exact hct j (by rw [H2.out]; exact hj))).mono ?_
    rintro e w6 ⟨rfl, rfl⟩
    go_wp2
    go_ret
    exact ⟨rfl, bel_drewN hbel _⟩
  · have hno := zb9_no w a0 len0 cap0 (.int .i64 a1) hsum
    go_enter Try.func3, Try.ntmps3
    go_wp2_with fail
    refine hno.mono ?_
    rintro e w' ⟨rfl, rfl⟩
    go_wp2
    go_ret
    exact ⟨rfl, Below.refl _ _⟩
end fnAppendIntegerRoundTrip
end Go.Proofs.Qxb6001432a
