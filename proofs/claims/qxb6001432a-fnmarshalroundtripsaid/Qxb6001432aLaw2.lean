/-
  THE WALK OF FnAppendElementRoundTrip (6).
-/
import Derived.Test.Qxb6001432aClone
import Derived.Test.Qxb6001432aSame
import Derived.Test.Qxb6001432aReadAt
import Derived.OpenShut
namespace Go.Proofs.Qxb6001432a
open Go.RowKit

/-- WHAT THE WALK IS TOLD OF A SLICE OF INTEGERS THAT CAME IN: it is nil; or it leads to a row of 'cap' cells, the numbers 'zs' (the first 'len' are its elements, the rest its spare room), each fitting its kind. -/
def IsRow (k : IntKind) (w : World) (a : Option Addr) (len cap : Nat) (zs : List Int) : Prop :=
  (a = none ∧ len = 0 ∧ cap = 0 ∧ zs = []) ∨
  ∃ x, a = some x ∧ len ≤ cap ∧ cap ≤ maxLen ∧ zs.length = cap ∧ (∀ i, i < zs.length → w.cell? (x.add i) = some (.int k (zs.getD i 0))) ∧ ∀ n ∈ zs, (Lit.int k n).wf = true

/-- .. its bytes. -/
def bytesIn (len : Nat) (zs : List Int) : List Nat := (zs.take len).map Int.toNat
theorem IsRow.inp {w : World} {a : Option Addr} {len cap : Nat} {zs : List Int} (h : IsRow .u8 w a len cap zs) : Inp w a len (bytesIn len zs) := by
  rcases h with ⟨rfl, rfl, rfl, rfl⟩ | ⟨x, rfl, hl, hm, hz, hc, hw⟩
  · exact ⟨rfl, by simp [bytesIn], fun _ => rfl, fun x hx => by cases hx⟩
  · refine ⟨by simp [bytesIn]; omega, ?_, (fun hx => by cases hx), ?_⟩
    · intro y hy
      obtain ⟨z, hz1, rfl⟩ := List.mem_map.1 hy
      have := bounds_u8 (hw z (List.mem_of_mem_take hz1))
      omega
    · intro x' hx' j hj
      cases hx'
      rw [hc j (by omega)]
      have hjz : j < zs.length := by omega
      have hb := bounds_u8 (hw zs[j] (List.getElem_mem hjz))
      have e1 : zs.getD j 0 = zs[j] := by simp [List.getD, hjz]
      have e2 : bt (bytesIn len zs) j = zs[j].toNat := by simp [bt, bytesIn, List.getD, hj, hjz]
      rw [e1, e2]
      congr 2
      omega
theorem IsRow.len_le {w : World} {a : Option Addr} {len cap : Nat} {zs : List Int} (h : IsRow .u8 w a len cap zs) : len ≤ maxLen := by
  rcases h with ⟨rfl, rfl, rfl, rfl⟩ | ⟨x, rfl, hl, hm, hz, hc, hw⟩
  · simp
  · omega
theorem Inp.grown {w w' : World} {a : Option Addr} {len : Nat} {l : List Nat} (h : Inp w a len l) (hg : w.grownBy w' none) : Inp w' a len l :=
  ⟨h.size, h.byte, h.nil, fun x hx j hj => hg.cell (h.cell x hx j hj) (by simp)⟩

theorem below_of {w w' : World} (hg : w.grownBy w' none) : Below w.heap.size w w' := (Below.refl _ _).grown hg (Nat.le_refl _) (fun k hk => by cases hk)
theorem bel_drewN {B : Nat} {a w : World} (h : Below B a w) (k : Nat) : Below B a (w.drewN k) := ⟨h.os, h.tape, h.output, h.size, h.block⟩

set_option maxRecDepth 100000 in
theorem zb17_no (w : World) (a0 : Option Addr) (n0 c0 : Nat) (t : ByteArray) (a2 : Option Addr) (n2 c2 : Nat) (h0 : n0 ≤ maxLen) (h1 : t.size ≤ maxLen) (h2 : n2 ≤ maxLen) (h : ¬ n0 + t.size + n2 ≤ 1048576) :
    Calls Try.prog 17 #[.slice a0 n0 c0, .string t, .slice a2 n2 c2] w fun e w' => e = .returned (.bool false) ∧ w' = w := by
  unfold maxLen at h0 h1 h2
  go_enter Try.func17, Try.ntmps17
  go_wp2
  all_goals first | (exfalso; omega) | (go_ret; exact ⟨rfl, rfl⟩)
set_option maxRecDepth 100000 in
theorem zb17_yes (w : World) (a0 : Option Addr) (n0 c0 : Nat) (t : ByteArray) (a2 : Option Addr) (n2 c2 : Nat) (h : n0 + t.size + n2 ≤ 1048576) :
    Calls Try.prog 17 #[.slice a0 n0 c0, .string t, .slice a2 n2 c2] w fun e w' => e = .returned (.bool true) ∧ w' = w := by
  go_enter Try.func17, Try.ntmps17
  go_wp2
  all_goals first | (exfalso; omega) | (go_ret; exact ⟨rfl, rfl⟩)

namespace fnAppendElementRoundTrip
set_option maxRecDepth 100000 in
theorem walk (a0 : Option Addr) (len0 cap0 : Nat) (z0 : List Int) (a1 : ByteArray) (a2 : Option Addr) (len2 cap2 : Nat) (z2 : List Int) (w : World) (w0 : IsRow .u8 w a0 len0 cap0 z0) (w1 : a1.size ≤ maxLen) (w2 : IsRow .u8 w a2 len2 cap2 z2) :
    Calls Try.prog 6 #[.slice a0 len0 cap0, .string a1, .slice a2 len2 cap2] w fun e w' => e = .returned (.bool true) ∧ Below w.heap.size w w' := by
  have i0 := w0.inp
  have i2 := w2.inp
  generalize bytesIn len0 z0 = l0 at i0
  generalize bytesIn len2 z2 = l2 at i2
  by_cases hsum : len0 + a1.size + len2 ≤ 1048576
  · have hyes := zb17_yes w a0 len0 cap0 a1 a2 len2 cap2 hsum
    clear w0 w1 w2
    go_enter Try.func6, Try.ntmps6
    go_wp2_with fail
    refine hyes.mono ?_
    rintro e w' ⟨rfl, rfl⟩
    go_wp2_with fail
    refine (clone_any w' a0 len0 cap0 l0 i0 (by omega)).mono ?_
    rintro e w1 ⟨v0, rfl, o0, g0⟩
    go_wp2_with fail
    refine (clone_any w1 a2 len2 cap2 l2 (i2.grown g0) (by omega)).mono ?_
    rintro e w2 ⟨v2, rfl, o2, g2⟩
    go_wp2_with (first | (go_at_call 18; go_in) | fail)
    have o0' := o0.kept g2 (by cases v0.ownBlock <;> simp)
    obtain ⟨ax, cx, hv2⟩ := ownsRow_shape o2
    subst hv2
    refine (ae_any w2 w'.heap.size v0 len0 l0 o0' a1 w1.heap.size ax len2 cx l2 o2 (blk_ne o0 o2) (Nat.le_trans g0.size g2.size) (by omega) (by omega) (by omega)).mono ?_
    rintro e w3 ⟨v3, rfl, h3⟩
    have hle := enc_length a1 l2
    have hll := lenL_len l2.length (by rw [i2.size]; omega)
    have hi0 := i0.size
    have hi2 := i2.size
    have hown := h3.own
    rw [← B_append] at hown
    obtain ⟨n, hn⟩ : ∃ n, len0 + (enc a1 l2).length = n := ⟨_, rfl⟩
    rw [hn] at hown
    have hn0 : 0 < n := by omega
    have hn1 : n ≤ 1073741824 := by omega
    have hn2 : len0 ≤ n := by omega
    obtain ⟨g, cap, hv⟩ := own_some hown hn0
    subst hv
    have hby : ∀ x ∈ l0 ++ enc a1 l2, x < 256 := by
      intro x hx
      rcases List.mem_append.1 hx with hx | hx
      · exact i0.byte x hx
      · exact enc_byte a1 l2 (by omega) i2.byte x hx
    have hbuf := Buf.of_own hown hby
    obtain ⟨ay, cy, hv0⟩ := ownsRow_shape o0
    subst hv0
    have hbel : Below w'.heap.size w' w3 := (below_of (grownBy_trans g0 g2 (.inr fun k hk => by cases hk))).trans ((Below.refl _ _).grown h3.grown (Nat.le_trans g0.size g2.size) (fun k hk => (o0.lt k hk).1))
    have o2' := h3.other o2 (blk_ne o0 o2)
    have o0'' := h3.old
    have HN : Hid (len0 + (enc a1 l2).length = n) := hn
    have H0 : Hid (l0.length = len0) := hi0
    have H2 : Hid (l2.length = len2) := hi2
    clear hn hi0 hi2 hle hll hown
    go_wp2_with fail
    refine (same_any w3 g n cap (l0 ++ enc a1 l2) hbuf 0 len0 _ _ rfl rfl w'.heap.size _ len0 l0 o0'' i0.byte (by omega) (by omega) hn1 (fun j hj => by rw [Nat.zero_add]; exact bt_left _ _ _ (by rw [H0.out]; exact hj))).mono ?_
    rintro e w4 ⟨rfl, k4, rfl⟩
    go_wp2_with fail
    have hE := elem_at (w3.drewN k4) g n cap l0 l2 [] a1 (by rw [List.append_nil]; exact hbuf.drewN k4) (len0 : Int) (n : Int) (by rw [H0.out]) n rfl (by rw [H0.out, HN.out]; omega) (Nat.le_refl _) hn1 (by rw [H2.out]; omega)
    have hct := fun j hj => bt_contents l0 l2 [] a1 j hj
    rw [H0.out, HN.out] at hE
    rw [H0.out] at hct
    simp only [List.append_nil] at hct
    have hSn : len0 + hd a1 l2.length + len2 = n := by have h1 := HN.out; rw [enc_hd, H2.out] at h1; rw [H2.out]; omega
    generalize len0 + hd a1 l2.length = S at hE hct hSn
    refine hE.mono ?_
    rintro e w5 ⟨rfl, k5, rfl⟩
    have HS : Hid (S + len2 = n) := hSn
    clear hSn hE
    go_wp2_with fail
    refine (same_any (w3.drewN (k4 + k5)) g n cap (l0 ++ enc a1 l2) (hbuf.drewN (k4 + k5)) S n _ _ rfl rfl w1.heap.size _ len2 l2 o2' i2.byte HS.out (Nat.le_refl _) hn1 (fun j hj => hct j (by rw [H2.out]; exact hj))).mono ?_
    rintro e w6 ⟨rfl, k6, rfl⟩
    go_wp2
    go_ret
    exact ⟨rfl, bel_drewN hbel _⟩
  · have hno := zb17_no w a0 len0 cap0 a1 a2 len2 cap2 w0.len_le w1 w2.len_le hsum
    go_enter Try.func6, Try.ntmps6
    go_wp2_with fail
    refine hno.mono ?_
    rintro e w' ⟨rfl, rfl⟩
    go_wp2
    go_ret
    exact ⟨rfl, Below.refl _ _⟩
end fnAppendElementRoundTrip
end Go.Proofs.Qxb6001432a
