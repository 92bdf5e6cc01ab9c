/-
  THE WALK OF (*ConnectInitial).Marshal (22).
-/
import Derived.Test.Qxb6001432aSeq
import Derived.Deep.CutBlock
import Derived.RegionTactic
import Derived.BigRegion
namespace Go.Proofs.Qxb6001432a
open Go.RowKit

def t4 : ByteArray := { data := #[4] }
def t1 : ByteArray := { data := #[1] }
def tCI : ByteArray := { data := #[127, 101] }
def ub (up : Bool) : Nat := if up then 255 else 0

theorem blk_ne2 {w1 wr : World} {b b2 : Nat} {e : TypeId} {z : Nat} {v1 : Value} {n : Nat} {xs : List Value} {e' : TypeId} {z' : Nat} {o : Value} {m : Nat} {ys : List Value}
    (h1 : w1.ownsRow b e z v1 n xs) (hb : w1.heap.size ≤ b2) (h2 : wr.ownsRow b2 e' z' o m ys) : v1.ownBlock = none ∨ v1.ownBlock ≠ o.ownBlock := by
  cases ho : v1.ownBlock with
  | none => exact .inl rfl
  | some g =>
    right
    intro hc
    have l1 := (h1.lt g ho).2
    have l2 := (h2.lt g hc.symm).1
    omega

theorem ne_nil (v : Value) : v.ownBlock = none ∨ v.ownBlock ≠ (Value.slice none 0 0).ownBlock := by
  cases h : v.ownBlock <;> simp [Value.ownBlock]
theorem kept0 {w w' : World} {base : Nat} {e : TypeId} {size : Nat} {v : Value} {n : Nat} {xs : List Value} (h : w.ownsRow base e size v n xs) (hg : w.grownBy w' none) : w'.ownsRow base e size v n xs :=
  h.kept hg (by cases v.ownBlock <;> simp)

/-- One element more on a row of the call's own. -/
theorem ae_step {wc w1 : World} (g1 : wc.grownBy w1 none) {v1 : Value} {l1 : List Nat} (o1 : w1.ownsRow wc.heap.size 5 1 v1 l1.length (B l1)) (tag : ByteArray) {b : Nat} {a : Option Addr} {m cp : Nat} {c : List Nat}
    (ou : wc.ownsRow b 5 1 (.slice a m cp) m (B c)) (hm : m < 16777216) (ht : tag.size ≤ 1048576) (hn : l1.length ≤ 1073741824) :
    Calls Try.prog 25 #[v1, .string tag, .slice a m cp] w1 fun e w2 => ∃ v2, e = .returned v2 ∧ wc.grownBy w2 none ∧ w2.ownsRow wc.heap.size 5 1 v2 (l1 ++ enc tag c).length (B (l1 ++ enc tag c)) := by
  refine (ae_any w1 wc.heap.size v1 l1.length l1 o1 tag b a m cp c (kept0 ou g1) (blk_ne2 ou (Nat.le_refl _) o1) g1.size hm ht hn).mono ?_
  rintro e w2 ⟨v2, rfl, h2⟩
  refine ⟨v2, rfl, grownBy_trans g1 h2.grown (.inr fun k hk => (o1.lt k hk).1), ?_⟩
  rw [List.length_append, B_append]
  exact h2.own
theorem at_step {wc w1 : World} (g1 : wc.grownBy w1 none) {v1 : Value} {l1 : List Nat} (o1 : w1.ownsRow wc.heap.size 5 1 v1 l1.length (B l1)) (x0 x1 x2 x3 x4 x5 x6 x7 : Int) (hx : Ints [x0, x1, x2, x3, x4, x5, x6, x7]) (hn : l1.length ≤ 1073741824) :
    Calls Try.prog 26 #[.agg #[.int .i64 x0, .int .i64 x1, .int .i64 x2, .int .i64 x3, .int .i64 x4, .int .i64 x5, .int .i64 x6, .int .i64 x7], v1] w1 fun e w2 => ∃ v2, e = .returned v2 ∧ w1.grownBy w2 v1.ownBlock ∧ wc.grownBy w2 none ∧
      w2.ownsRow wc.heap.size 5 1 v2 (l1 ++ encS [x0, x1, x2, x3, x4, x5, x6, x7]).length (B (l1 ++ encS [x0, x1, x2, x3, x4, x5, x6, x7])) := by
  refine (at_any w1 wc.heap.size v1 l1.length l1 o1 g1.size x0 x1 x2 x3 x4 x5 x6 x7 hx hn).mono ?_
  rintro e w2 ⟨v2, rfl, h2⟩
  refine ⟨v2, rfl, h2.grown, grownBy_trans g1 h2.grown (.inr fun k hk => (o1.lt k hk).1), ?_⟩
  rw [List.length_append, B_append]
  exact h2.own
theorem encS_le (xs : List Int) (h : xs.length = 8) : (encS xs).length ≤ 85 := by
  have := encs_le xs
  have h2 := lenL_len (encs xs).length (by omega)
  rw [encS, enc_length]
  have : t30.size = 1 := rfl
  omega
theorem enc1_le (tag : ByteArray) (c : List Nat) (ht : tag.size ≤ 2) (h : c.length < 16777216) : (enc tag c).length ≤ 6 + c.length := by
  have h2 := lenL_len c.length h
  rw [enc_length]
  omega

theorem grown_drew {w w' : World} {r : Option Nat} (h : w.grownBy w' r) : w.grownBy w'.drew r := ⟨h.os, h.tape, h.output, h.size, h.block⟩

theorem own_mono {w w' : World} {b : Nat} {e : TypeId} {z : Nat} {v : Value} {n : Nat} {xs : List Value} (hb : w.heap.size ≤ b) (h : w'.ownsRow b e z v n xs) : w'.ownsRow w.heap.size e z v n xs :=
  ⟨h.1, h.2.imp id fun ⟨g, cap, cur, a1, a2, a3⟩ => ⟨g, cap, cur, a1, Nat.le_trans hb a2, a3⟩⟩

/-- The body, k of the three sets of parameters laid. -/
def Lk (l a b c : List Nat) : Nat → List Nat
  | 0 => l
  | 1 => l ++ a
  | 2 => l ++ a ++ b
  | _ => l ++ a ++ b ++ c
theorem own_type {w : World} {base : Nat} {e : TypeId} {v : Value} {n : Nat} {xs : List Value} (h : w.ownsRow base e 1 v n xs) {P : Nat} {C : Array Value} {t : TypeId} (hP : w.heap[P]? = some (.cells C t (0, 0))) (hne : t ≠ e) : some P ≠ v.ownBlock := by
  intro hc
  rcases h.2 with ⟨rfl, _⟩ | ⟨g, cap, cur, rfl, _, hg, _⟩
  · simp [Value.ownBlock] at hc
  · simp only [Value.ownBlock, Option.some.injEq] at hc
    subst hc
    rw [hP] at hg
    simp only [Option.some.injEq, Obj.cells.injEq, and_true] at hg
    exact hne hg.2

theorem P_kept {wr w5 : World} {b : Nat} {v : Value} {n : Nat} {xs : List Value} {O : Obj} (ho : wr.ownsRow b 5 1 v n xs) (gs : (wr.alloc O).grownBy w5 v.ownBlock) {P : Nat} {C : Array Value} (hP : wr.heap[P]? = some (.cells C 40 (0, 0))) :
    w5.heap[P]? = some (.cells C 40 (0, 0)) := by
  have hsz : P < wr.heap.size := (Array.getElem?_eq_some_iff.1 hP).1
  rw [gs.block P (by simp; omega) (own_type ho hP (by decide)), Below.heap_alloc wr _ P hsz]
  exact hP

/-- The fields of a ConnectInitial, as they lie in memory. -/
def ciCells (vc vd : Value) (up : Bool) (T M X : List Int) (vu : Value) : List Value := [vc, vd, .bool up] ++ T.map (.int .i64) ++ M.map (.int .i64) ++ X.map (.int .i64) ++ [vu]

set_option maxRecDepth 100000 in
theorem mar_any (w : World) (G : Nat) (ac : Option Addr) (nc cc : Nat) (lc : List Nat) (ad : Option Addr) (nd cd : Nat) (ld : List Nat) (up : Bool) (x0 x1 x2 x3 x4 x5 x6 x7 y0 y1 y2 y3 y4 y5 y6 y7 z0 z1 z2 z3 z4 z5 z6 z7 : Int) (au : Option Addr) (nu cu : Nat) (lu : List Nat)
    (hG : G < w.heap.size)
    (hcells : ∀ j v, (ciCells (.slice ac nc cc) (.slice ad nd cd) up [x0, x1, x2, x3, x4, x5, x6, x7] [y0, y1, y2, y3, y4, y5, y6, y7] [z0, z1, z2, z3, z4, z5, z6, z7] (.slice au nu cu))[j]? = some v → w.cell? ⟨G, j, none⟩ = some v)
    (b : Nat) (oc : w.ownsRow b 5 1 (.slice ac nc cc) nc (B lc)) (od : w.ownsRow b 5 1 (.slice ad nd cd) nd (B ld)) (ou : w.ownsRow b 5 1 (.slice au nu cu) nu (B lu))
    (hsum : nc + nd + nu ≤ 1048576) (hx : Ints [x0, x1, x2, x3, x4, x5, x6, x7]) (hy : Ints [y0, y1, y2, y3, y4, y5, y6, y7]) (hz : Ints [z0, z1, z2, z3, z4, z5, z6, z7]) :
    Calls Try.prog 22 #[.pointer (some ⟨G, 0, none⟩)] w fun e w' => ∃ v' n', e = .returned v' ∧ w.grownBy w' none ∧
      w'.ownsRow w.heap.size 5 1 v' n' (B (enc tCI (enc t4 lc ++ enc t4 ld ++ enc t1 [ub up] ++ encS [x0, x1, x2, x3, x4, x5, x6, x7] ++ encS [y0, y1, y2, y3, y4, y5, y6, y7] ++ encS [z0, z1, z2, z3, z4, z5, z6, z7] ++ enc t4 lu))) := by
  have HC : Hid (∀ j v, (ciCells (.slice ac nc cc) (.slice ad nd cd) up [x0, x1, x2, x3, x4, x5, x6, x7] [y0, y1, y2, y3, y4, y5, y6, y7] [z0, z1, z2, z3, z4, z5, z6, z7] (.slice au nu cu))[j]? = some v → w.cell? ⟨G, j, none⟩ = some v) := hcells
  clear hcells
  have c2 : w.cell? ⟨G, 2, none⟩ = some (.bool up) := HC.out 2 _ rfl
  go_enter Try.func22, Try.ntmps22
  go_upto_if 11 with fail
  go_cut [] from 12 (fun wc => w.grownBy wc none ∧ wc.ownsRow w.heap.size 5 1 (.slice (some ⟨w.heap.size, 0, none⟩) 1 1) 1 (B [ub up]))
  case first =>
    cases up
    · go_wp2
      go_meet
      case rel => exact ⟨World.grownBy_alloc _ _ _, World.ownsRow_lit w _ 1 (Nat.le_refl _) (by unfold maxLen; omega) rfl⟩
    · go_wp2
      go_meet
      case rel => exact ⟨World.grownBy_alloc _ _ _, World.ownsRow_lit w _ 1 (Nat.le_refl _) (by unfold maxLen; omega) rfl⟩
  case rest =>
    obtain ⟨g0, oup⟩ := hcut
    have HC0 : Hid (∀ j v, (ciCells (.slice ac nc cc) (.slice ad nd cd) up [x0, x1, x2, x3, x4, x5, x6, x7] [y0, y1, y2, y3, y4, y5, y6, y7] [z0, z1, z2, z3, z4, z5, z6, z7] (.slice au nu cu))[j]? = some v → wc.cell? ⟨G, j, none⟩ = some v) :=
      fun j v h => g0.cell (HC.out j v h) (by simp)
    have oc0 := kept0 oc g0
    have od0 := kept0 od g0
    have ou0 := kept0 ou g0
    clear HC c2
    have hlc : lc.length = nc := by have := oc.1; rw [B_length] at this; omega
    have hld : ld.length = nd := by have := od.1; rw [B_length] at this; omega
    have hlu : lu.length = nu := by have := ou.1; rw [B_length] at this; omega
    have m1 := enc1_le t4 lc (by decide) (by omega)
    have m2 := enc1_le t4 ld (by decide) (by omega)
    have m3 := enc1_le t1 [ub up] (by decide) (by simp)
    have m4 := encS_le [x0, x1, x2, x3, x4, x5, x6, x7] rfl
    have m5 := encS_le [y0, y1, y2, y3, y4, y5, y6, y7] rfl
    have m6 := encS_le [z0, z1, z2, z3, z4, z5, z6, z7] rfl
    have m7 := enc1_le t4 lu (by decide) (by omega)
    simp only [List.length_singleton] at m3
    have m1' : (enc t4 lc).length ≤ 6 + nc := by omega
    have m2' : (enc t4 ld).length ≤ 6 + nd := by omega
    have m7' : (enc t4 lu).length ≤ 6 + nu := by omega
    clear m1 m2 m7 hlc hld hlu oc od ou
    have c0 : wc.cell? ⟨G, 0, none⟩ = some (.slice ac nc cc) := HC0.out 0 _ rfl
    go_wp2_with fail
    refine (ae_step (World.grownBy.refl wc none) (l1 := []) (World.ownsRow_nil _ _ _ _) t4 oc0 (by omega) (by decide) (by simp)).mono ?_
    rintro e w1 ⟨v1, rfl, g1, o1⟩
    rw [List.nil_append] at o1
    have c1 : w1.cell? ⟨G, 1, none⟩ = some (.slice ad nd cd) := g1.cell (HC0.out 1 _ rfl) (by simp)
    clear c0
    go_wp2_with fail
    refine (ae_step g1 o1 t4 od0 (by omega) (by decide) (by omega)).mono ?_
    rintro e w2 ⟨v2, rfl, g2, o2⟩
    clear c1 o1 g1
    go_wp2_with fail
    refine (ae_step g2 o2 t1 oup (by omega) (by decide) (by simp only [List.length_append]; omega)).mono ?_
    rintro e w3 ⟨v3, rfl, g3, o3⟩
    clear o2 g2
    go_wp2_with fail
    have d3 : w3.cell? ⟨G, 3, none⟩ = some (.int .i64 x0) := g3.cell (HC0.out 3 _ rfl) (by simp)
    have d4 : w3.cell? ⟨G, 4, none⟩ = some (.int .i64 x1) := g3.cell (HC0.out 4 _ rfl) (by simp)
    have d5 : w3.cell? ⟨G, 5, none⟩ = some (.int .i64 x2) := g3.cell (HC0.out 5 _ rfl) (by simp)
    have d6 : w3.cell? ⟨G, 6, none⟩ = some (.int .i64 x3) := g3.cell (HC0.out 6 _ rfl) (by simp)
    have d7 : w3.cell? ⟨G, 7, none⟩ = some (.int .i64 x4) := g3.cell (HC0.out 7 _ rfl) (by simp)
    have d8 : w3.cell? ⟨G, 8, none⟩ = some (.int .i64 x5) := g3.cell (HC0.out 8 _ rfl) (by simp)
    have d9 : w3.cell? ⟨G, 9, none⟩ = some (.int .i64 x6) := g3.cell (HC0.out 9 _ rfl) (by simp)
    have d10 : w3.cell? ⟨G, 10, none⟩ = some (.int .i64 x7) := g3.cell (HC0.out 10 _ rfl) (by simp)
    have d11 : w3.cell? ⟨G, 11, none⟩ = some (.int .i64 y0) := g3.cell (HC0.out 11 _ rfl) (by simp)
    have d12 : w3.cell? ⟨G, 12, none⟩ = some (.int .i64 y1) := g3.cell (HC0.out 12 _ rfl) (by simp)
    have d13 : w3.cell? ⟨G, 13, none⟩ = some (.int .i64 y2) := g3.cell (HC0.out 13 _ rfl) (by simp)
    have d14 : w3.cell? ⟨G, 14, none⟩ = some (.int .i64 y3) := g3.cell (HC0.out 14 _ rfl) (by simp)
    have d15 : w3.cell? ⟨G, 15, none⟩ = some (.int .i64 y4) := g3.cell (HC0.out 15 _ rfl) (by simp)
    have d16 : w3.cell? ⟨G, 16, none⟩ = some (.int .i64 y5) := g3.cell (HC0.out 16 _ rfl) (by simp)
    have d17 : w3.cell? ⟨G, 17, none⟩ = some (.int .i64 y6) := g3.cell (HC0.out 17 _ rfl) (by simp)
    have d18 : w3.cell? ⟨G, 18, none⟩ = some (.int .i64 y7) := g3.cell (HC0.out 18 _ rfl) (by simp)
    have d19 : w3.cell? ⟨G, 19, none⟩ = some (.int .i64 z0) := g3.cell (HC0.out 19 _ rfl) (by simp)
    have d20 : w3.cell? ⟨G, 20, none⟩ = some (.int .i64 z1) := g3.cell (HC0.out 20 _ rfl) (by simp)
    have d21 : w3.cell? ⟨G, 21, none⟩ = some (.int .i64 z2) := g3.cell (HC0.out 21 _ rfl) (by simp)
    have d22 : w3.cell? ⟨G, 22, none⟩ = some (.int .i64 z3) := g3.cell (HC0.out 22 _ rfl) (by simp)
    have d23 : w3.cell? ⟨G, 23, none⟩ = some (.int .i64 z4) := g3.cell (HC0.out 23 _ rfl) (by simp)
    have d24 : w3.cell? ⟨G, 24, none⟩ = some (.int .i64 z5) := g3.cell (HC0.out 24 _ rfl) (by simp)
    have d25 : w3.cell? ⟨G, 25, none⟩ = some (.int .i64 z6) := g3.cell (HC0.out 25 _ rfl) (by simp)
    have d26 : w3.cell? ⟨G, 26, none⟩ = some (.int .i64 z7) := g3.cell (HC0.out 26 _ rfl) (by simp)
    go_big_region
    clear d3 d4 d5 d6 d7 d8 d9 d10 d11 d12 d13 d14 d15 d16 d17 d18 d19 d20 d21 d22 d23 d24 d25 d26
    go_wp2_with fail
    obtain ⟨P, hPe⟩ : ∃ P, P = w3.heap.size := ⟨_, rfl⟩
    rw [← hPe]
    have HPE : Hid (P = w3.heap.size) := hPe
    clear hPe
    obtain ⟨l3, hl3⟩ : ∃ l3, l3 = enc t4 lc ++ enc t4 ld ++ enc t1 [ub up] := ⟨_, rfl⟩
    rw [← hl3] at o3
    have hl3n : l3.length ≤ 19 + nc + nd := by rw [hl3]; simp only [List.length_append]; omega
    have HL3 : Hid (l3 = enc t4 lc ++ enc t4 ld ++ enc t1 [ub up]) := hl3
    clear hl3
    go_loopw [4, 43] (fun sv c wr => ∃ k : Nat, k ≤ 3 ∧ c = .int .i64 k ∧ wc.grownBy wr none ∧ wr.ownsRow wc.heap.size 5 1 sv (Lk l3 (encS [x0, x1, x2, x3, x4, x5, x6, x7]) (encS [y0, y1, y2, y3, y4, y5, y6, y7]) (encS [z0, z1, z2, z3, z4, z5, z6, z7]) k).length (B (Lk l3 (encS [x0, x1, x2, x3, x4, x5, x6, x7]) (encS [y0, y1, y2, y3, y4, y5, y6, y7]) (encS [z0, z1, z2, z3, z4, z5, z6, z7]) k)) ∧
        wr.heap[P]? = some (.cells #[.int .i64 x0, .int .i64 x1, .int .i64 x2, .int .i64 x3, .int .i64 x4, .int .i64 x5, .int .i64 x6, .int .i64 x7, .int .i64 y0, .int .i64 y1, .int .i64 y2, .int .i64 y3, .int .i64 y4, .int .i64 y5, .int .i64 y6, .int .i64 y7, .int .i64 z0, .int .i64 z1, .int .i64 z2, .int .i64 z3, .int .i64 z4, .int .i64 z5, .int .i64 z6, .int .i64 z7] 40 (0, 0))) (fun _ c _ => 3 - (intOf c).toNat)
    case atStart => exact ⟨0, by omega, rfl, grown_drew (grownBy_trans g3 (World.grownBy_alloc w3 _ none) (.inl rfl)), (o3.alloc _).drew, by rw [HPE.out]; exact heap_alloc_new w3 _⟩
    case round =>
      obtain ⟨k, hk, rfl, gr, or, hP⟩ := hrel
      obtain rfl | rfl | rfl | rfl : k = 0 ∨ k = 1 ∨ k = 2 ∨ k = 3 := by omega
      · have d0 : wr.cell? ⟨P, 0, none⟩ = some (.int .i64 x0) := (cell_of_row wr P 0 _ 40 (0, 0) hP).trans rfl
        have d1 : wr.cell? ⟨P, 1, none⟩ = some (.int .i64 x1) := (cell_of_row wr P 1 _ 40 (0, 0) hP).trans rfl
        have d2 : wr.cell? ⟨P, 2, none⟩ = some (.int .i64 x2) := (cell_of_row wr P 2 _ 40 (0, 0) hP).trans rfl
        have d3 : wr.cell? ⟨P, 3, none⟩ = some (.int .i64 x3) := (cell_of_row wr P 3 _ 40 (0, 0) hP).trans rfl
        have d4 : wr.cell? ⟨P, 4, none⟩ = some (.int .i64 x4) := (cell_of_row wr P 4 _ 40 (0, 0) hP).trans rfl
        have d5 : wr.cell? ⟨P, 5, none⟩ = some (.int .i64 x5) := (cell_of_row wr P 5 _ 40 (0, 0) hP).trans rfl
        have d6 : wr.cell? ⟨P, 6, none⟩ = some (.int .i64 x6) := (cell_of_row wr P 6 _ 40 (0, 0) hP).trans rfl
        have d7 : wr.cell? ⟨P, 7, none⟩ = some (.int .i64 x7) := (cell_of_row wr P 7 _ 40 (0, 0) hP).trans rfl
        have HP : Hid (wr.heap[P]? = some (.cells #[.int .i64 x0, .int .i64 x1, .int .i64 x2, .int .i64 x3, .int .i64 x4, .int .i64 x5, .int .i64 x6, .int .i64 x7, .int .i64 y0, .int .i64 y1, .int .i64 y2, .int .i64 y3, .int .i64 y4, .int .i64 y5, .int .i64 y6, .int .i64 y7, .int .i64 z0, .int .i64 z1, .int .i64 z2, .int .i64 z3, .int .i64 z4, .int .i64 z5, .int .i64 z6, .int .i64 z7] 40 (0, 0))) := hP
        clear hP
        go_wp2_with fail
        refine (at_step (grownBy_trans gr (World.grownBy_alloc wr _ none) (.inl rfl)) (or.alloc _) x0 x1 x2 x3 x4 x5 x6 x7 hx (by simp only [Lk]; omega)).mono ?_
        rintro e w5 ⟨v5, rfl, gs, g5, o5⟩
        go_wp2
        go_roundw
        case rel => exact ⟨1, by omega, rfl, g5, o5, P_kept or gs HP.out⟩
        case measure => simp [intOf]
      · have d0 : wr.cell? ⟨P, 8, none⟩ = some (.int .i64 y0) := (cell_of_row wr P 8 _ 40 (0, 0) hP).trans rfl
        have d1 : wr.cell? ⟨P, 9, none⟩ = some (.int .i64 y1) := (cell_of_row wr P 9 _ 40 (0, 0) hP).trans rfl
        have d2 : wr.cell? ⟨P, 10, none⟩ = some (.int .i64 y2) := (cell_of_row wr P 10 _ 40 (0, 0) hP).trans rfl
        have d3 : wr.cell? ⟨P, 11, none⟩ = some (.int .i64 y3) := (cell_of_row wr P 11 _ 40 (0, 0) hP).trans rfl
        have d4 : wr.cell? ⟨P, 12, none⟩ = some (.int .i64 y4) := (cell_of_row wr P 12 _ 40 (0, 0) hP).trans rfl
        have d5 : wr.cell? ⟨P, 13, none⟩ = some (.int .i64 y5) := (cell_of_row wr P 13 _ 40 (0, 0) hP).trans rfl
        have d6 : wr.cell? ⟨P, 14, none⟩ = some (.int .i64 y6) := (cell_of_row wr P 14 _ 40 (0, 0) hP).trans rfl
        have d7 : wr.cell? ⟨P, 15, none⟩ = some (.int .i64 y7) := (cell_of_row wr P 15 _ 40 (0, 0) hP).trans rfl
        have HP : Hid (wr.heap[P]? = some (.cells #[.int .i64 x0, .int .i64 x1, .int .i64 x2, .int .i64 x3, .int .i64 x4, .int .i64 x5, .int .i64 x6, .int .i64 x7, .int .i64 y0, .int .i64 y1, .int .i64 y2, .int .i64 y3, .int .i64 y4, .int .i64 y5, .int .i64 y6, .int .i64 y7, .int .i64 z0, .int .i64 z1, .int .i64 z2, .int .i64 z3, .int .i64 z4, .int .i64 z5, .int .i64 z6, .int .i64 z7] 40 (0, 0))) := hP
        clear hP
        go_wp2_with fail
        refine (at_step (grownBy_trans gr (World.grownBy_alloc wr _ none) (.inl rfl)) (or.alloc _) y0 y1 y2 y3 y4 y5 y6 y7 hy (by simp only [Lk, List.length_append]; omega)).mono ?_
        rintro e w5 ⟨v5, rfl, gs, g5, o5⟩
        go_wp2
        go_roundw
        case rel => exact ⟨2, by omega, rfl, g5, o5, P_kept or gs HP.out⟩
        case measure => simp [intOf]
      · have d0 : wr.cell? ⟨P, 16, none⟩ = some (.int .i64 z0) := (cell_of_row wr P 16 _ 40 (0, 0) hP).trans rfl
        have d1 : wr.cell? ⟨P, 17, none⟩ = some (.int .i64 z1) := (cell_of_row wr P 17 _ 40 (0, 0) hP).trans rfl
        have d2 : wr.cell? ⟨P, 18, none⟩ = some (.int .i64 z2) := (cell_of_row wr P 18 _ 40 (0, 0) hP).trans rfl
        have d3 : wr.cell? ⟨P, 19, none⟩ = some (.int .i64 z3) := (cell_of_row wr P 19 _ 40 (0, 0) hP).trans rfl
        have d4 : wr.cell? ⟨P, 20, none⟩ = some (.int .i64 z4) := (cell_of_row wr P 20 _ 40 (0, 0) hP).trans rfl
        have d5 : wr.cell? ⟨P, 21, none⟩ = some (.int .i64 z5) := (cell_of_row wr P 21 _ 40 (0, 0) hP).trans rfl
        have d6 : wr.cell? ⟨P, 22, none⟩ = some (.int .i64 z6) := (cell_of_row wr P 22 _ 40 (0, 0) hP).trans rfl
        have d7 : wr.cell? ⟨P, 23, none⟩ = some (.int .i64 z7) := (cell_of_row wr P 23 _ 40 (0, 0) hP).trans rfl
        have HP : Hid (wr.heap[P]? = some (.cells #[.int .i64 x0, .int .i64 x1, .int .i64 x2, .int .i64 x3, .int .i64 x4, .int .i64 x5, .int .i64 x6, .int .i64 x7, .int .i64 y0, .int .i64 y1, .int .i64 y2, .int .i64 y3, .int .i64 y4, .int .i64 y5, .int .i64 y6, .int .i64 y7, .int .i64 z0, .int .i64 z1, .int .i64 z2, .int .i64 z3, .int .i64 z4, .int .i64 z5, .int .i64 z6, .int .i64 z7] 40 (0, 0))) := hP
        clear hP
        go_wp2_with fail
        refine (at_step (grownBy_trans gr (World.grownBy_alloc wr _ none) (.inl rfl)) (or.alloc _) z0 z1 z2 z3 z4 z5 z6 z7 hz (by simp only [Lk, List.length_append]; omega)).mono ?_
        rintro e w5 ⟨v5, rfl, gs, g5, o5⟩
        go_wp2
        go_roundw
        case rel => exact ⟨3, by omega, rfl, g5, o5, P_kept or gs HP.out⟩
        case measure => simp [intOf]
      · have c27 : wr.cell? ⟨G, 27, none⟩ = some (.slice au nu cu) := gr.cell (HC0.out 27 _ rfl) (by simp)
        clear hP
        go_wp2_with fail
        refine (ae_step gr or t4 ou0 (by omega) (by decide) (by simp only [Lk, List.length_append]; omega)).mono ?_
        rintro e w5 ⟨v5, rfl, g5, o5⟩
        obtain ⟨bl, hbl⟩ : ∃ bl, bl = Lk l3 (encS [x0, x1, x2, x3, x4, x5, x6, x7]) (encS [y0, y1, y2, y3, y4, y5, y6, y7]) (encS [z0, z1, z2, z3, z4, z5, z6, z7]) 3 ++ enc t4 lu := ⟨_, rfl⟩
        rw [← hbl] at o5
        have hbn : bl.length ≤ 2000000 := by rw [hbl]; simp only [Lk, List.length_append]; omega
        have HB : Hid (bl = enc t4 lc ++ enc t4 ld ++ enc t1 [ub up] ++ encS [x0, x1, x2, x3, x4, x5, x6, x7] ++ encS [y0, y1, y2, y3, y4, y5, y6, y7] ++ encS [z0, z1, z2, z3, z4, z5, z6, z7] ++ enc t4 lu) := by rw [hbl, HL3.out]; rfl
        obtain ⟨a5, c5, hv5⟩ := ownsRow_shape o5
        subst hv5
        clear c27 hbl or gr
        go_wp2_with fail
        refine (ae_any w5 wc.heap.size (.slice none 0 0) 0 [] (World.ownsRow_nil _ _ _ _) tCI wc.heap.size a5 _ c5 bl o5 (ne_nil _) g5.size (by omega) (by show 2 ≤ _; omega) (by omega)).mono ?_
        rintro e w6 ⟨v6, rfl, h6⟩
        rw [HB.out] at h6
        go_wp2
        go_ret
        refine ⟨v6, _, rfl, grownBy_trans (grownBy_trans g0 g5 (.inl rfl)) h6.grown (.inr fun k hk => by simp [Value.ownBlock] at hk), own_mono g0.size h6.own⟩
end Go.Proofs.Qxb6001432a
