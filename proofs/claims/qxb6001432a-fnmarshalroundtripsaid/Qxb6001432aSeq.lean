/-
  THE WALK OF (DomainParameters).appendTo (26).
-/
import Derived.Test.Qxb6001432aInteger
namespace Go.Proofs.Qxb6001432a
open Go.RowKit

/-- The INTEGERs of a list, one behind the other. -/
def encs (xs : List Int) : List Nat := xs.flatMap encI
theorem encs_snoc (xs : List Int) (x : Int) : encs (xs ++ [x]) = encs xs ++ encI x := by simp [encs]
def bi (xs : List Int) (k : Nat) : Int := xs.getD k 0
theorem take_bi (xs : List Int) (k : Nat) (h : k < xs.length) : xs.take (k + 1) = xs.take k ++ [bi xs k] := by
  rw [List.take_succ_eq_append_getElem h]; simp [bi, List.getD, h]
def t30 : ByteArray := { data := #[48] }
def encS (xs : List Int) : List Nat := enc t30 (encs xs)

theorem encI_le (x : Int) : (encI x).length ≤ 10 := by
  have := ilen_bd x
  rw [encI_eq]; simp [ibytes_length]; omega
theorem encs_le (xs : List Int) : (encs xs).length ≤ 10 * xs.length := by
  induction xs with
  | nil => simp [encs]
  | cons x xs ih =>
    have := encI_le x
    simp only [encs, List.flatMap_cons, List.length_append, List.length_cons] at ih ⊢
    omega

theorem blk_ne' {w1 wr : World} {b b2 : Nat} {e : TypeId} {z : Nat} {v1 : Value} {n : Nat} {xs : List Value} {e' : TypeId} {z' : Nat} {o : Value} {m : Nat} {ys : List Value}
    (h1 : w1.ownsRow b e z v1 n xs) (hb : w1.heap.size ≤ b2) (h2 : wr.ownsRow b2 e' z' o m ys) : o.ownBlock = none ∨ o.ownBlock ≠ v1.ownBlock := by
  cases ho : o.ownBlock with
  | none => exact .inl rfl
  | some g =>
    right
    intro hc
    have l1 := (h2.lt g ho).1
    have l2 := (h1.lt g hc.symm).2
    omega

/-- Each of the numbers is an int. -/
def Ints (xs : List Int) : Prop := ∀ k, -9223372036854775808 ≤ bi xs k ∧ bi xs k ≤ 9223372036854775807

set_option maxRecDepth 100000 in
theorem at_any (w : World) (base : Nat) (v : Value) (n : Nat) (l : List Nat) (hown : w.ownsRow base 5 1 v n (B l)) (hbase : base ≤ w.heap.size) (x0 x1 x2 x3 x4 x5 x6 x7 : Int) (hx : Ints [x0, x1, x2, x3, x4, x5, x6, x7])
    (hn : n ≤ 1073741824) :
    Calls Try.prog 26 #[.agg #[.int .i64 x0, .int .i64 x1, .int .i64 x2, .int .i64 x3, .int .i64 x4, .int .i64 x5, .int .i64 x6, .int .i64 x7], v] w fun e w' => ∃ v', e = .returned v' ∧
      App base 5 1 w v n (B l) w' v' (encS [x0, x1, x2, x3, x4, x5, x6, x7]).length (B (encS [x0, x1, x2, x3, x4, x5, x6, x7])) := by
  obtain ⟨xs, hxs⟩ : ∃ xs, xs = [x0, x1, x2, x3, x4, x5, x6, x7] := ⟨_, rfl⟩
  have h8 : xs.length = 8 := by rw [hxs]; rfl
  rw [← hxs] at hx
  have HX : Hid (xs = [x0, x1, x2, x3, x4, x5, x6, x7]) := hxs
  have HI : Hid (Ints xs) := hx
  have H8 : Hid (xs.length = 8) := h8
  clear hxs hx h8
  go_enter Try.func26, Try.ntmps26
  go_wp2_with fail
  go_loopw [5, 26] (fun sv c wr => ∃ k : Nat, k ≤ 8 ∧ c = .int .i64 k ∧ wr.ownsRow (w.heap.size + 2) 5 1 sv (encs (xs.take k)).length (B (encs (xs.take k))) ∧ w.grownBy wr none ∧ w.heap.size + 2 ≤ wr.heap.size ∧
      ∀ j, j < 8 → wr.cell? ⟨w.heap.size + 1, j, none⟩ = some (.int .i64 (bi xs j))) (fun _ c _ => 8 - (intOf c).toNat)
  case atStart =>
    refine ⟨0, by omega, rfl, World.ownsRow_nil _ _ _ _, grownBy_trans (World.grownBy_alloc _ _ none) (World.grownBy_alloc _ _ none) (.inl rfl), by simp, ?_⟩
    intro j hj
    rw [HX.out]
    have hc : ∀ (O : Obj) (C : Array Value), ((w.alloc O).alloc (.cells C 3)).cell? ⟨w.heap.size + 1, j, none⟩ = C[j]? := fun O C => by
      have := World.cell?_alloc_new (w.alloc O) C 3 j
      rwa [show (w.alloc O).heap.size = w.heap.size + 1 by simp] at this
    rw [hc]
    obtain rfl | rfl | rfl | rfl | rfl | rfl | rfl | rfl : j = 0 ∨ j = 1 ∨ j = 2 ∨ j = 3 ∨ j = 4 ∨ j = 5 ∨ j = 6 ∨ j = 7 := by omega
    all_goals rfl
  case round =>
    obtain ⟨k, hk, rfl, ho, hg, hsz, hc⟩ := hrel
    have hle := encs_le (xs.take k)
    have htl : (xs.take k).length ≤ k := List.length_take_le _ _
    obtain ⟨a5, c5, hs5⟩ := ownsRow_shape ho
    subst hs5
    by_cases hlt : k < 8
    · have hck := hc k hlt
      have HC : Hid (∀ j, j < 8 → wr.cell? ⟨w.heap.size + 1, j, none⟩ = some (.int .i64 (bi xs j))) := hc
      clear hc
      go_wp2_with fail
      refine (ai_any wr (w.heap.size + 2) _ _ (encs (xs.take k)) ho hsz (bi xs k) (HI.out k).1 (HI.out k).2 (by omega)).mono ?_
      rintro e w2 ⟨v2, rfl, h2⟩
      have hn2 : encs (xs.take (k + 1)) = encs (xs.take k) ++ encI (bi xs k) := by rw [take_bi xs k (by rw [H8.out]; exact hlt), encs_snoc]
      have ho2 : w2.ownsRow (w.heap.size + 2) 5 1 v2 (encs (xs.take (k + 1))).length (B (encs (xs.take (k + 1)))) := by rw [hn2, B_append, List.length_append]; exact h2.own
      have hb2 : ∀ q, (Value.slice a5 (encs (xs.take k)).length c5).ownBlock = some q → w.heap.size + 2 ≤ q := fun q hq => (ho.lt q hq).1
      clear hn2
      go_wp2
      go_roundw
      case rel =>
        refine ⟨k + 1, by omega, by go_num, ho2, grownBy_trans hg h2.grown (.inr fun q hq => by have := hb2 q hq; omega), Nat.le_trans hsz h2.grown.size, fun j hj => h2.grown.cell (HC.out j hj) (fun e => by have := hb2 _ e.symm; simp at this)⟩
      case measure => simp [intOf]; omega
    · obtain rfl : k = 8 := by omega
      have htk : xs.take 8 = xs := List.take_of_length_le (by rw [H8.out]; omega)
      have HT : Hid (xs.take 8 = xs) := htk
      clear hc htk
      go_wp2_with fail
      refine (ae_any wr base v n l (hown.kept hg (by cases v.ownBlock <;> simp)) t30 (w.heap.size + 2) a5 _ c5 (encs (xs.take 8)) ho (blk_ne' hown (Nat.le_add_right _ 2) ho) (Nat.le_trans hbase hg.size) (by omega) (by show 1 ≤ _; omega) hn).mono ?_
      rintro e w2 ⟨v2, rfl, h2⟩
      rw [HT.out, HX.out] at h2
      go_wp2
      go_ret
      exact ⟨v2, rfl, App.pre hg h2⟩
end Go.Proofs.Qxb6001432a
