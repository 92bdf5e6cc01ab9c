/-
  THE WALK OF FnMarshalRoundTrip (8): its small callees zzDP (21), zzBytes (20).
-/
import Derived.Test.Qxb6001432aSeqHolds
import Derived.Test.Qxb6001432aMarshal
namespace Go.Proofs.Qxb6001432a
open Go.RowKit

set_option maxRecDepth 100000 in
theorem dp_any (w : World) (x0 x1 x2 x3 x4 x5 x6 x7 : Int) :
    Calls Try.prog 21 #[.agg #[.int .i64 x0, .int .i64 x1, .int .i64 x2, .int .i64 x3, .int .i64 x4, .int .i64 x5, .int .i64 x6, .int .i64 x7]] w fun e w' =>
      e = .returned (.agg #[.int .i64 x0, .int .i64 x1, .int .i64 x2, .int .i64 x3, .int .i64 x4, .int .i64 x5, .int .i64 x6, .int .i64 x7]) ∧ w.grownBy w' none := by
  go_enter Try.func21, Try.ntmps21
  go_wp2
  exact bodyPost_ret (v := .agg #[.int .i64 x0, .int .i64 x1, .int .i64 x2, .int .i64 x3, .int .i64 x4, .int .i64 x5, .int .i64 x6, .int .i64 x7]) (by simp [results, Try.results21, go_sem]) rfl ⟨rfl, grownBy_trans (World.grownBy_alloc _ _ none) (World.grownBy_alloc _ _ none) (.inl rfl)⟩

set_option maxRecDepth 100000 in
theorem zb20_no (w : World) (a0 : Option Addr) (n0 c0 : Nat) (a1 : Option Addr) (n1 c1 : Nat) (v2 : Value) (X Y Z : Array Value) (a6 : Option Addr) (n6 c6 : Nat) (h0 : n0 ≤ maxLen) (h1 : n1 ≤ maxLen) (h6 : n6 ≤ maxLen) (h : ¬ n0 + n1 + n6 ≤ 1048576) :
    Calls Try.prog 20 #[.slice a0 n0 c0, .slice a1 n1 c1, v2, .agg X, .agg Y, .agg Z, .slice a6 n6 c6] w fun e w' => e = .returned (.bool false) ∧ w.grownBy w' none := by
  unfold maxLen at h0 h1 h6
  have hg : w.grownBy (((w.alloc (.cells X 37)).alloc (.cells Y 37)).alloc (.cells Z 37)) none := grownBy_trans (grownBy_trans (World.grownBy_alloc _ _ none) (World.grownBy_alloc _ _ none) (.inl rfl)) (World.grownBy_alloc _ _ none) (.inl rfl)
  go_enter Try.func20, Try.ntmps20
  go_wp2
  all_goals first | (exfalso; omega) | (go_ret; exact ⟨rfl, hg⟩)
set_option maxRecDepth 100000 in
theorem zb20_yes (w : World) (a0 : Option Addr) (n0 c0 : Nat) (a1 : Option Addr) (n1 c1 : Nat) (v2 : Value) (X Y Z : Array Value) (a6 : Option Addr) (n6 c6 : Nat) (h : n0 + n1 + n6 ≤ 1048576) :
    Calls Try.prog 20 #[.slice a0 n0 c0, .slice a1 n1 c1, v2, .agg X, .agg Y, .agg Z, .slice a6 n6 c6] w fun e w' => e = .returned (.bool true) ∧ w.grownBy w' none := by
  have hg : w.grownBy (((w.alloc (.cells X 37)).alloc (.cells Y 37)).alloc (.cells Z 37)) none := grownBy_trans (grownBy_trans (World.grownBy_alloc _ _ none) (World.grownBy_alloc _ _ none) (.inl rfl)) (World.grownBy_alloc _ _ none) (.inl rfl)
  go_enter Try.func20, Try.ntmps20
  go_wp2
  all_goals first | (exfalso; omega) | (go_ret; exact ⟨rfl, hg⟩)

theorem own_len {w : World} {b n : Nat} {v : Value} {l : List Nat} (h : w.ownsRow b 5 1 v n (B l)) : l.length = n := by have := h.1; rw [B_length] at this; omega
theorem encs_byte (xs : List Int) : ∀ x ∈ encs xs, x < 256 := by
  intro x hx
  obtain ⟨y, _, hy⟩ := List.mem_flatMap.1 hx
  exact encI_byte y x hy
theorem encS_byte (xs : List Int) (h : xs.length = 8) : ∀ x ∈ encS xs, x < 256 := by
  have := encs_le xs
  exact enc_byte t30 (encs xs) (by omega) (encs_byte xs)
theorem Hid.intro {p : Prop} (h : p) : Hid p := h

/-! The readers once more, the world behind them 'grown' alone. -/
theorem elem_g (w : World) (g n cap : Nat) (L : List Nat) (hb : Buf w g n L) (pre c post : List Nat) (tag : ByteArray) (hL : L = pre ++ enc tag c ++ post) (pos' : Int) (hp : pos' = (pre.length : Int)) (limit S E : Nat)
    (hS : S = pre.length + hd tag c.length) (hE : E = (pre ++ enc tag c).length) (hlim : E ≤ limit) (hn1 : limit ≤ n) (hn : n ≤ 1073741824) (hc : c.length < 16777216) :
    Calls Try.prog 13 #[.slice (some ⟨g, 0, none⟩) n cap, .int .i64 pos', .int .i64 (limit : Int), .string tag] w fun r w' =>
      r = .returned (.tuple #[.int .i64 (S : Int), .int .i64 (E : Int), .bool true]) ∧ w.grownBy w' none := by
  subst hL
  rw [List.length_append] at hE
  subst hS; subst hE
  refine (elem_at w g n cap pre c post tag hb pos' _ hp limit rfl hlim hn1 hn hc).mono ?_
  rintro r w' ⟨rfl, k, rfl⟩
  exact ⟨rfl, grown_drewN (World.grownBy.refl _ _) k⟩
theorem same_g (w : World) (g n cap : Nat) (L : List Nat) (hb : Buf w g n L) (pre c post : List Nat) (tag : ByteArray) (hL : L = pre ++ enc tag c ++ post) (S E : Nat) (hS : S = pre.length + hd tag c.length) (hE : E = (pre ++ enc tag c).length) (hE2 : E ≤ n) (hn : n ≤ 1073741824)
    (b2 : Nat) (u : Value) (m : Nat) (hu : w.ownsRow b2 5 1 u m (B c)) (hcb : ∀ x ∈ c, x < 256) :
    Calls Try.prog 12 #[.slice (some ⟨g, 0, none⟩) n cap, .int .i64 (S : Int), .int .i64 (E : Int), u] w fun r w' => r = .returned (.bool true) ∧ w.grownBy w' none := by
  have hm : c.length = m := by have := hu.1; rw [B_length] at this; omega
  have e1 := enc_hd tag c
  rw [List.length_append] at hE
  refine (same_any w g n cap L hb S E _ _ rfl rfl b2 u m c hu hcb (by omega) hE2 hn (fun j hj => by rw [hL, hS]; exact bt_contents pre c post tag j (by omega))).mono ?_
  rintro r w' ⟨rfl, k, rfl⟩
  exact ⟨rfl, grown_drewN (World.grownBy.refl _ _) k⟩
theorem sh_g (w : World) (g n cap : Nat) (L : List Nat) (hb : Buf w g n L) (pre post : List Nat) (x0 x1 x2 x3 x4 x5 x6 x7 : Int) (hx : Ints [x0, x1, x2, x3, x4, x5, x6, x7]) (hL : L = pre ++ encS [x0, x1, x2, x3, x4, x5, x6, x7] ++ post) (S E : Nat)
    (hS : S = pre.length + hd t30 (encs [x0, x1, x2, x3, x4, x5, x6, x7]).length) (hE : E = (pre ++ encS [x0, x1, x2, x3, x4, x5, x6, x7]).length) (hn : n ≤ 1073741824) :
    Calls Try.prog 23 #[.slice (some ⟨g, 0, none⟩) n cap, .int .i64 (S : Int), .int .i64 (E : Int), .agg #[.int .i64 x0, .int .i64 x1, .int .i64 x2, .int .i64 x3, .int .i64 x4, .int .i64 x5, .int .i64 x6, .int .i64 x7]] w fun r w' =>
      r = .returned (.bool true) ∧ w.grownBy w' none := by
  have hS' : S = (pre ++ (tagL t30 ++ lenL (encs [x0, x1, x2, x3, x4, x5, x6, x7]).length)).length := by rw [hS, List.length_append, List.length_append, tagL_length]; rfl
  refine sh_any w g n cap (pre ++ (tagL t30 ++ lenL (encs [x0, x1, x2, x3, x4, x5, x6, x7]).length)) post x0 x1 x2 x3 x4 x5 x6 x7 hx (by rw [hL] at hb; simpa [encS, enc, List.append_assoc] using hb) _ _ (by rw [hS']) ?_ hn
  rw [hE]
  simp only [encS, enc, List.length_append]
  omega
end Go.Proofs.Qxb6001432a
