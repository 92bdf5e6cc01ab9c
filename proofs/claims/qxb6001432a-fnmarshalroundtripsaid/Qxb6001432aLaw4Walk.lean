/-
  THE WALK OF FnMarshalRoundTrip (8).
-/
import Derived.Test.Qxb6001432aLaw4
import Derived.Deep.RegionHeld3
namespace Go.Proofs.Qxb6001432a
open Go.RowKit

theorem st_kept {w w' : World} {b : Nat} {O : Obj} (h : w.heap[b]? = some O) (hg : w.grownBy w' none) : w'.heap[b]? = some O := by
  rw [hg.block b (Array.getElem?_eq_some_iff.1 h).1 (by simp)]; exact h

namespace fnMarshalRoundTrip
set_option maxRecDepth 100000 in
set_option maxHeartbeats 2000000 in
theorem walk (a0 : Option Addr) (len0 cap0 : Nat) (r0 : List Int) (a1 : Option Addr) (len1 cap1 : Nat) (r1 : List Int) (up : Bool) (x0 x1 x2 x3 x4 x5 x6 x7 y0 y1 y2 y3 y4 y5 y6 y7 z0 z1 z2 z3 z4 z5 z6 z7 : Int) (a6 : Option Addr) (len6 cap6 : Nat) (r6 : List Int) (w : World)
    (q0 : IsRow .u8 w a0 len0 cap0 r0) (q1 : IsRow .u8 w a1 len1 cap1 r1) (hx : Ints [x0, x1, x2, x3, x4, x5, x6, x7]) (hy : Ints [y0, y1, y2, y3, y4, y5, y6, y7]) (hz : Ints [z0, z1, z2, z3, z4, z5, z6, z7]) (q6 : IsRow .u8 w a6 len6 cap6 r6) :
    Calls Try.prog 8 #[.slice a0 len0 cap0, .slice a1 len1 cap1, .bool up, .agg #[.int .i64 x0, .int .i64 x1, .int .i64 x2, .int .i64 x3, .int .i64 x4, .int .i64 x5, .int .i64 x6, .int .i64 x7], .agg #[.int .i64 y0, .int .i64 y1, .int .i64 y2, .int .i64 y3, .int .i64 y4, .int .i64 y5, .int .i64 y6, .int .i64 y7], .agg #[.int .i64 z0, .int .i64 z1, .int .i64 z2, .int .i64 z3, .int .i64 z4, .int .i64 z5, .int .i64 z6, .int .i64 z7], .slice a6 len6 cap6] w fun e w' => e = .returned (.bool true) ∧ Below w.heap.size w w' := by
  have i0 := q0.inp
  have i1 := q1.inp
  have i6 := q6.inp
  generalize bytesIn len0 r0 = l0 at i0
  generalize bytesIn len1 r1 = l1 at i1
  generalize bytesIn len6 r6 = l6 at i6
  have gW : w.grownBy (((w.alloc (.cells #[.int .i64 x0, .int .i64 x1, .int .i64 x2, .int .i64 x3, .int .i64 x4, .int .i64 x5, .int .i64 x6, .int .i64 x7] 37)).alloc (.cells #[.int .i64 y0, .int .i64 y1, .int .i64 y2, .int .i64 y3, .int .i64 y4, .int .i64 y5, .int .i64 y6, .int .i64 y7] 37)).alloc (.cells #[.int .i64 z0, .int .i64 z1, .int .i64 z2, .int .i64 z3, .int .i64 z4, .int .i64 z5, .int .i64 z6, .int .i64 z7] 37)) none := grownBy_trans (grownBy_trans (World.grownBy_alloc _ _ none) (World.grownBy_alloc _ _ none) (.inl rfl)) (World.grownBy_alloc _ _ none) (.inl rfl)
  by_cases hsum : len0 + len1 + len6 ≤ 1048576
  · clear q0 q1 q6
    have sX : (((w.alloc (.cells #[.int .i64 x0, .int .i64 x1, .int .i64 x2, .int .i64 x3, .int .i64 x4, .int .i64 x5, .int .i64 x6, .int .i64 x7] 37)).alloc (.cells #[.int .i64 y0, .int .i64 y1, .int .i64 y2, .int .i64 y3, .int .i64 y4, .int .i64 y5, .int .i64 y6, .int .i64 y7] 37)).alloc (.cells #[.int .i64 z0, .int .i64 z1, .int .i64 z2, .int .i64 z3, .int .i64 z4, .int .i64 z5, .int .i64 z6, .int .i64 z7] 37)).heap[w.heap.size]? = some (.cells #[.int .i64 x0, .int .i64 x1, .int .i64 x2, .int .i64 x3, .int .i64 x4, .int .i64 x5, .int .i64 x6, .int .i64 x7] 37 (0, 0)) := by
      rw [Below.heap_alloc _ _ _ (by simp only [World.size_alloc]; omega), Below.heap_alloc _ _ _ (by simp only [World.size_alloc]; omega)]; exact heap_alloc_new w _
    have sY : (((w.alloc (.cells #[.int .i64 x0, .int .i64 x1, .int .i64 x2, .int .i64 x3, .int .i64 x4, .int .i64 x5, .int .i64 x6, .int .i64 x7] 37)).alloc (.cells #[.int .i64 y0, .int .i64 y1, .int .i64 y2, .int .i64 y3, .int .i64 y4, .int .i64 y5, .int .i64 y6, .int .i64 y7] 37)).alloc (.cells #[.int .i64 z0, .int .i64 z1, .int .i64 z2, .int .i64 z3, .int .i64 z4, .int .i64 z5, .int .i64 z6, .int .i64 z7] 37)).heap[w.heap.size + 1]? = some (.cells #[.int .i64 y0, .int .i64 y1, .int .i64 y2, .int .i64 y3, .int .i64 y4, .int .i64 y5, .int .i64 y6, .int .i64 y7] 37 (0, 0)) := by
      rw [Below.heap_alloc _ _ _ (by simp)]; have := heap_alloc_new (w.alloc (.cells #[.int .i64 x0, .int .i64 x1, .int .i64 x2, .int .i64 x3, .int .i64 x4, .int .i64 x5, .int .i64 x6, .int .i64 x7] 37)) (.cells #[.int .i64 y0, .int .i64 y1, .int .i64 y2, .int .i64 y3, .int .i64 y4, .int .i64 y5, .int .i64 y6, .int .i64 y7] 37); rwa [show (w.alloc (.cells #[.int .i64 x0, .int .i64 x1, .int .i64 x2, .int .i64 x3, .int .i64 x4, .int .i64 x5, .int .i64 x6, .int .i64 x7] 37)).heap.size = w.heap.size + 1 by simp] at this
    have sZ : (((w.alloc (.cells #[.int .i64 x0, .int .i64 x1, .int .i64 x2, .int .i64 x3, .int .i64 x4, .int .i64 x5, .int .i64 x6, .int .i64 x7] 37)).alloc (.cells #[.int .i64 y0, .int .i64 y1, .int .i64 y2, .int .i64 y3, .int .i64 y4, .int .i64 y5, .int .i64 y6, .int .i64 y7] 37)).alloc (.cells #[.int .i64 z0, .int .i64 z1, .int .i64 z2, .int .i64 z3, .int .i64 z4, .int .i64 z5, .int .i64 z6, .int .i64 z7] 37)).heap[w.heap.size + 1 + 1]? = some (.cells #[.int .i64 z0, .int .i64 z1, .int .i64 z2, .int .i64 z3, .int .i64 z4, .int .i64 z5, .int .i64 z6, .int .i64 z7] 37 (0, 0)) := by
      have := heap_alloc_new ((w.alloc (.cells #[.int .i64 x0, .int .i64 x1, .int .i64 x2, .int .i64 x3, .int .i64 x4, .int .i64 x5, .int .i64 x6, .int .i64 x7] 37)).alloc (.cells #[.int .i64 y0, .int .i64 y1, .int .i64 y2, .int .i64 y3, .int .i64 y4, .int .i64 y5, .int .i64 y6, .int .i64 y7] 37)) (.cells #[.int .i64 z0, .int .i64 z1, .int .i64 z2, .int .i64 z3, .int .i64 z4, .int .i64 z5, .int .i64 z6, .int .i64 z7] 37); rwa [show ((w.alloc (.cells #[.int .i64 x0, .int .i64 x1, .int .i64 x2, .int .i64 x3, .int .i64 x4, .int .i64 x5, .int .i64 x6, .int .i64 x7] 37)).alloc (.cells #[.int .i64 y0, .int .i64 y1, .int .i64 y2, .int .i64 y3, .int .i64 y4, .int .i64 y5, .int .i64 y6, .int .i64 y7] 37)).heap.size = w.heap.size + 1 + 1 by simp] at this
    have GW := Hid.intro gW
    have SX := Hid.intro sX
    have SY := Hid.intro sY
    have SZ := Hid.intro sZ
    clear gW sX sY sZ
    go_enter Try.func8, Try.ntmps8
    go_wp2_with fail
    refine (zb20_yes _ a0 len0 cap0 a1 len1 cap1 (.bool up) #[.int .i64 x0, .int .i64 x1, .int .i64 x2, .int .i64 x3, .int .i64 x4, .int .i64 x5, .int .i64 x6, .int .i64 x7] #[.int .i64 y0, .int .i64 y1, .int .i64 y2, .int .i64 y3, .int .i64 y4, .int .i64 y5, .int .i64 y6, .int .i64 y7] #[.int .i64 z0, .int .i64 z1, .int .i64 z2, .int .i64 z3, .int .i64 z4, .int .i64 z5, .int .i64 z6, .int .i64 z7] a6 len6 cap6 hsum).mono ?_
    rintro e w1 ⟨rfl, g1⟩
    have gw1 := grownBy_trans GW.out g1 (.inl rfl)
    have sX := Hid.intro (st_kept SX.out g1)
    have sY := Hid.intro (st_kept SY.out g1)
    have sZ := Hid.intro (st_kept SZ.out g1)
    clear GW SX SY SZ g1
    go_wp2_with fail
    refine (clone_any w1 a0 len0 cap0 l0 (i0.grown gw1) (by omega)).mono ?_
    rintro e w2 ⟨v0, rfl, o0, g2⟩
    go_wp2_with fail
    refine (clone_any w2 a1 len1 cap1 l1 ((i1.grown gw1).grown g2) (by omega)).mono ?_
    rintro e w3 ⟨v1, rfl, o1, g3⟩
    go_wp2_with fail
    refine (clone_any w3 a6 len6 cap6 l6 (((i6.grown gw1).grown g2).grown g3) (by omega)).mono ?_
    rintro e w4 ⟨v6, rfl, o6, g4⟩
    have gw4 := grownBy_trans (grownBy_trans (grownBy_trans gw1 g2 (.inl rfl)) g3 (.inl rfl)) g4 (.inl rfl)
    have tX := Hid.intro (st_kept (st_kept (st_kept sX.out g2) g3) g4)
    have tY := Hid.intro (st_kept (st_kept (st_kept sY.out g2) g3) g4)
    have tZ := Hid.intro (st_kept (st_kept (st_kept sZ.out g2) g3) g4)
    have p0 := own_mono gw1.size (kept0 (kept0 o0 g3) g4)
    have p1 := own_mono (Nat.le_trans gw1.size g2.size) (kept0 o1 g4)
    have p6 := own_mono (Nat.le_trans gw1.size (Nat.le_trans g2.size g3.size)) o6
    obtain ⟨b0, k0, hv0⟩ := ownsRow_shape p0
    obtain ⟨b1, k1, hv1⟩ := ownsRow_shape p1
    obtain ⟨b6, k6, hv6⟩ := ownsRow_shape p6
    subst hv0; subst hv1; subst hv6
    clear sX sY sZ o0 o1 o6 gw1 g2 g3 g4
    go_wp2_with fail
    have rx0 : ∀ wx, w4.grownBy wx none → wx.cell? ⟨w.heap.size, 0, none⟩ = some (.int .i64 x0) := fun wx hg => (cell_of_row wx (w.heap.size) 0 _ 37 (0, 0) (st_kept tX.out hg)).trans rfl
    have rx1 : ∀ wx, w4.grownBy wx none → wx.cell? ⟨w.heap.size, 1, none⟩ = some (.int .i64 x1) := fun wx hg => (cell_of_row wx (w.heap.size) 1 _ 37 (0, 0) (st_kept tX.out hg)).trans rfl
    have rx2 : ∀ wx, w4.grownBy wx none → wx.cell? ⟨w.heap.size, 2, none⟩ = some (.int .i64 x2) := fun wx hg => (cell_of_row wx (w.heap.size) 2 _ 37 (0, 0) (st_kept tX.out hg)).trans rfl
    have rx3 : ∀ wx, w4.grownBy wx none → wx.cell? ⟨w.heap.size, 3, none⟩ = some (.int .i64 x3) := fun wx hg => (cell_of_row wx (w.heap.size) 3 _ 37 (0, 0) (st_kept tX.out hg)).trans rfl
    have rx4 : ∀ wx, w4.grownBy wx none → wx.cell? ⟨w.heap.size, 4, none⟩ = some (.int .i64 x4) := fun wx hg => (cell_of_row wx (w.heap.size) 4 _ 37 (0, 0) (st_kept tX.out hg)).trans rfl
    have rx5 : ∀ wx, w4.grownBy wx none → wx.cell? ⟨w.heap.size, 5, none⟩ = some (.int .i64 x5) := fun wx hg => (cell_of_row wx (w.heap.size) 5 _ 37 (0, 0) (st_kept tX.out hg)).trans rfl
    have rx6 : ∀ wx, w4.grownBy wx none → wx.cell? ⟨w.heap.size, 6, none⟩ = some (.int .i64 x6) := fun wx hg => (cell_of_row wx (w.heap.size) 6 _ 37 (0, 0) (st_kept tX.out hg)).trans rfl
    have rx7 : ∀ wx, w4.grownBy wx none → wx.cell? ⟨w.heap.size, 7, none⟩ = some (.int .i64 x7) := fun wx hg => (cell_of_row wx (w.heap.size) 7 _ 37 (0, 0) (st_kept tX.out hg)).trans rfl
    have ry0 : ∀ wx, w4.grownBy wx none → wx.cell? ⟨w.heap.size + 1, 0, none⟩ = some (.int .i64 y0) := fun wx hg => (cell_of_row wx (w.heap.size + 1) 0 _ 37 (0, 0) (st_kept tY.out hg)).trans rfl
    have ry1 : ∀ wx, w4.grownBy wx none → wx.cell? ⟨w.heap.size + 1, 1, none⟩ = some (.int .i64 y1) := fun wx hg => (cell_of_row wx (w.heap.size + 1) 1 _ 37 (0, 0) (st_kept tY.out hg)).trans rfl
    have ry2 : ∀ wx, w4.grownBy wx none → wx.cell? ⟨w.heap.size + 1, 2, none⟩ = some (.int .i64 y2) := fun wx hg => (cell_of_row wx (w.heap.size + 1) 2 _ 37 (0, 0) (st_kept tY.out hg)).trans rfl
    have ry3 : ∀ wx, w4.grownBy wx none → wx.cell? ⟨w.heap.size + 1, 3, none⟩ = some (.int .i64 y3) := fun wx hg => (cell_of_row wx (w.heap.size + 1) 3 _ 37 (0, 0) (st_kept tY.out hg)).trans rfl
    have ry4 : ∀ wx, w4.grownBy wx none → wx.cell? ⟨w.heap.size + 1, 4, none⟩ = some (.int .i64 y4) := fun wx hg => (cell_of_row wx (w.heap.size + 1) 4 _ 37 (0, 0) (st_kept tY.out hg)).trans rfl
    have ry5 : ∀ wx, w4.grownBy wx none → wx.cell? ⟨w.heap.size + 1, 5, none⟩ = some (.int .i64 y5) := fun wx hg => (cell_of_row wx (w.heap.size + 1) 5 _ 37 (0, 0) (st_kept tY.out hg)).trans rfl
    have ry6 : ∀ wx, w4.grownBy wx none → wx.cell? ⟨w.heap.size + 1, 6, none⟩ = some (.int .i64 y6) := fun wx hg => (cell_of_row wx (w.heap.size + 1) 6 _ 37 (0, 0) (st_kept tY.out hg)).trans rfl
    have ry7 : ∀ wx, w4.grownBy wx none → wx.cell? ⟨w.heap.size + 1, 7, none⟩ = some (.int .i64 y7) := fun wx hg => (cell_of_row wx (w.heap.size + 1) 7 _ 37 (0, 0) (st_kept tY.out hg)).trans rfl
    have rz0 : ∀ wx, w4.grownBy wx none → wx.cell? ⟨w.heap.size + 1 + 1, 0, none⟩ = some (.int .i64 z0) := fun wx hg => (cell_of_row wx (w.heap.size + 1 + 1) 0 _ 37 (0, 0) (st_kept tZ.out hg)).trans rfl
    have rz1 : ∀ wx, w4.grownBy wx none → wx.cell? ⟨w.heap.size + 1 + 1, 1, none⟩ = some (.int .i64 z1) := fun wx hg => (cell_of_row wx (w.heap.size + 1 + 1) 1 _ 37 (0, 0) (st_kept tZ.out hg)).trans rfl
    have rz2 : ∀ wx, w4.grownBy wx none → wx.cell? ⟨w.heap.size + 1 + 1, 2, none⟩ = some (.int .i64 z2) := fun wx hg => (cell_of_row wx (w.heap.size + 1 + 1) 2 _ 37 (0, 0) (st_kept tZ.out hg)).trans rfl
    have rz3 : ∀ wx, w4.grownBy wx none → wx.cell? ⟨w.heap.size + 1 + 1, 3, none⟩ = some (.int .i64 z3) := fun wx hg => (cell_of_row wx (w.heap.size + 1 + 1) 3 _ 37 (0, 0) (st_kept tZ.out hg)).trans rfl
    have rz4 : ∀ wx, w4.grownBy wx none → wx.cell? ⟨w.heap.size + 1 + 1, 4, none⟩ = some (.int .i64 z4) := fun wx hg => (cell_of_row wx (w.heap.size + 1 + 1) 4 _ 37 (0, 0) (st_kept tZ.out hg)).trans rfl
    have rz5 : ∀ wx, w4.grownBy wx none → wx.cell? ⟨w.heap.size + 1 + 1, 5, none⟩ = some (.int .i64 z5) := fun wx hg => (cell_of_row wx (w.heap.size + 1 + 1) 5 _ 37 (0, 0) (st_kept tZ.out hg)).trans rfl
    have rz6 : ∀ wx, w4.grownBy wx none → wx.cell? ⟨w.heap.size + 1 + 1, 6, none⟩ = some (.int .i64 z6) := fun wx hg => (cell_of_row wx (w.heap.size + 1 + 1) 6 _ 37 (0, 0) (st_kept tZ.out hg)).trans rfl
    have rz7 : ∀ wx, w4.grownBy wx none → wx.cell? ⟨w.heap.size + 1 + 1, 7, none⟩ = some (.int .i64 z7) := fun wx hg => (cell_of_row wx (w.heap.size + 1 + 1) 7 _ 37 (0, 0) (st_kept tZ.out hg)).trans rfl
    have hW4 : w4.grownBy w4 none := World.grownBy.refl _ _
    go_region_held3 (fun wx => w4.grownBy wx none) (first | exact grown_drew (World.grownBy.refl _ _) | assumption | exact grownBy_trans (by assumption) (by assumption) (.inl rfl) | exact grownBy_trans (by assumption) (World.grownBy_alloc _ _ _) (.inl rfl))
      (first | (go_at_call_of 21 (Value.int .i64 x0); refine (dp_any _ x0 x1 x2 x3 x4 x5 x6 x7).mono ?_; rintro e wy ⟨rfl, hgy⟩) | (go_at_call_of 21 (Value.int .i64 y0); refine (dp_any _ y0 y1 y2 y3 y4 y5 y6 y7).mono ?_; rintro e wy ⟨rfl, hgy⟩) | (go_at_call_of 21 (Value.int .i64 z0); refine (dp_any _ z0 z1 z2 z3 z4 z5 z6 z7).mono ?_; rintro e wy ⟨rfl, hgy⟩))
    clear rx0 rx1 rx2 rx3 rx4 rx5 rx6 rx7 ry0 ry1 ry2 ry3 ry4 ry5 ry6 ry7 rz0 rz1 rz2 rz3 rz4 rz5 rz6 rz7
    go_wp2_with fail
    have hB : w4.grownBy (wy.alloc (.cells #[.slice b0 len0 k0, .slice b1 len1 k1, .bool up, .int .i64 x0, .int .i64 x1, .int .i64 x2, .int .i64 x3, .int .i64 x4, .int .i64 x5, .int .i64 x6, .int .i64 x7, .int .i64 y0, .int .i64 y1, .int .i64 y2, .int .i64 y3, .int .i64 y4, .int .i64 y5, .int .i64 y6, .int .i64 y7, .int .i64 z0, .int .i64 z1, .int .i64 z2, .int .i64 z3, .int .i64 z4, .int .i64 z5, .int .i64 z6, .int .i64 z7, .slice b6 len6 k6] 43)) none := by assumption
    have hcc : ∀ j v, (ciCells (.slice b0 len0 k0) (.slice b1 len1 k1) up [x0, x1, x2, x3, x4, x5, x6, x7] [y0, y1, y2, y3, y4, y5, y6, y7] [z0, z1, z2, z3, z4, z5, z6, z7] (.slice b6 len6 k6))[j]? = some v → (wy.alloc (.cells #[.slice b0 len0 k0, .slice b1 len1 k1, .bool up, .int .i64 x0, .int .i64 x1, .int .i64 x2, .int .i64 x3, .int .i64 x4, .int .i64 x5, .int .i64 x6, .int .i64 x7, .int .i64 y0, .int .i64 y1, .int .i64 y2, .int .i64 y3, .int .i64 y4, .int .i64 y5, .int .i64 y6, .int .i64 y7, .int .i64 z0, .int .i64 z1, .int .i64 z2, .int .i64 z3, .int .i64 z4, .int .i64 z5, .int .i64 z6, .int .i64 z7, .slice b6 len6 k6] 43)).cell? ⟨wy.heap.size, j, none⟩ = some v := by
      intro j v h
      rw [World.cell?_alloc_new, ← h, ← Array.getElem?_toList]
      rfl
    refine (mar_any (wy.alloc (.cells #[.slice b0 len0 k0, .slice b1 len1 k1, .bool up, .int .i64 x0, .int .i64 x1, .int .i64 x2, .int .i64 x3, .int .i64 x4, .int .i64 x5, .int .i64 x6, .int .i64 x7, .int .i64 y0, .int .i64 y1, .int .i64 y2, .int .i64 y3, .int .i64 y4, .int .i64 y5, .int .i64 y6, .int .i64 y7, .int .i64 z0, .int .i64 z1, .int .i64 z2, .int .i64 z3, .int .i64 z4, .int .i64 z5, .int .i64 z6, .int .i64 z7, .slice b6 len6 k6] 43)) wy.heap.size b0 len0 k0 l0 b1 len1 k1 l1 up x0 x1 x2 x3 x4 x5 x6 x7 y0 y1 y2 y3 y4 y5 y6 y7 z0 z1 z2 z3 z4 z5 z6 z7 b6 len6 k6 l6 (by simp) hcc w.heap.size (kept0 p0 hB) (kept0 p1 hB) (kept0 p6 hB) hsum hx hy hz).mono ?_
    rintro e w5 ⟨vo, n, rfl, g5, oo⟩
    have g45 := grownBy_trans hB g5 (.inl rfl)
    have gw5 := grownBy_trans gw4 g45 (.inl rfl)
    have uX := Hid.intro (st_kept tX.out g45)
    have uY := Hid.intro (st_kept tY.out g45)
    have uZ := Hid.intro (st_kept tZ.out g45)
    have y0' := kept0 p0 g45
    have y1' := kept0 p1 g45
    have y6' := kept0 p6 g45
    obtain ⟨bd, hbd⟩ : ∃ bd, bd = enc t4 l0 ++ enc t4 l1 ++ enc t1 [ub up] ++ encS [x0, x1, x2, x3, x4, x5, x6, x7] ++ encS [y0, y1, y2, y3, y4, y5, y6, y7] ++ encS [z0, z1, z2, z3, z4, z5, z6, z7] ++ enc t4 l6 := ⟨_, rfl⟩
    rw [← hbd] at oo
    have hle := own_len oo
    have hle0 := own_len oo
    have m0 := enc1_le t4 l0 (by decide) (by rw [i0.size]; omega)
    have m1 := enc1_le t4 l1 (by decide) (by rw [i1.size]; omega)
    have m6 := enc1_le t4 l6 (by decide) (by rw [i6.size]; omega)
    have m2 := enc1_le t1 [ub up] (by decide) (by simp)
    have m3 := encS_le [x0, x1, x2, x3, x4, x5, x6, x7] rfl
    have m4 := encS_le [y0, y1, y2, y3, y4, y5, y6, y7] rfl
    have m5 := encS_le [z0, z1, z2, z3, z4, z5, z6, z7] rfl
    simp only [List.length_singleton] at m2
    rw [i0.size] at m0
    rw [i1.size] at m1
    rw [i6.size] at m6
    have hbn : bd.length ≤ 2000000 := by rw [hbd]; simp only [List.length_append]; omega
    have hll := lenL_len bd.length (by omega)
    have hen := enc_length tCI bd
    have hts : tCI.size = 2 := rfl
    have hn1 : n ≤ 1073741824 := by omega
    have hn0 : 0 < n := by omega
    obtain ⟨g, cap, hvo⟩ := own_some oo hn0
    subst hvo
    have hbyte : ∀ x ∈ enc tCI bd, x < 256 := by
      refine enc_byte tCI bd (by omega) ?_
      rw [hbd]
      intro x hx
      simp only [List.mem_append] at hx
      have e1 : ∀ x ∈ [ub up], x < 256 := by intro x hx; simp only [List.mem_singleton] at hx; subst hx; cases up <;> decide
      rcases hx with (((((hx | hx) | hx) | hx) | hx) | hx) | hx
      · exact enc_byte t4 l0 (by rw [i0.size]; omega) i0.byte x hx
      · exact enc_byte t4 l1 (by rw [i1.size]; omega) i1.byte x hx
      · exact enc_byte t1 [ub up] (by simp) e1 x hx
      · exact encS_byte _ rfl x hx
      · exact encS_byte _ rfl x hx
      · exact encS_byte _ rfl x hx
      · exact enc_byte t4 l6 (by rw [i6.size]; omega) i6.byte x hx
    have hbuf := Buf.of_own oo hbyte
    obtain ⟨O, hO⟩ : ∃ O, O = enc tCI bd := ⟨_, rfl⟩
    rw [← hO] at hbuf hle
    obtain ⟨H, hH⟩ : ∃ H, H = tagL tCI ++ lenL bd.length := ⟨_, rfl⟩
    have HO0 : Hid (O = [] ++ enc tCI bd ++ []) := by show O = _; rw [hO]; simp
    have HO : Hid (O = H ++ bd) := by show O = _; rw [hO, hH]; rfl
    have HBD := Hid.intro hbd
    have hHl : H.length = hd tCI bd.length := by rw [hH, List.length_append, tagL_length]; rfl
    clear hO hH hcc hB hbyte oo g5 tX tY tZ p0 p1 p6 hW4 hgy
    obtain ⟨P0, hP0⟩ : ∃ P, P = (H).length := ⟨_, rfl⟩
    obtain ⟨P1, hP1⟩ : ∃ P, P = (H ++ enc t4 l0).length := ⟨_, rfl⟩
    obtain ⟨P2, hP2⟩ : ∃ P, P = (H ++ enc t4 l0 ++ enc t4 l1).length := ⟨_, rfl⟩
    obtain ⟨P3, hP3⟩ : ∃ P, P = (H ++ enc t4 l0 ++ enc t4 l1 ++ enc t1 [ub up]).length := ⟨_, rfl⟩
    obtain ⟨P4, hP4⟩ : ∃ P, P = (H ++ enc t4 l0 ++ enc t4 l1 ++ enc t1 [ub up] ++ encS [x0, x1, x2, x3, x4, x5, x6, x7]).length := ⟨_, rfl⟩
    obtain ⟨P5, hP5⟩ : ∃ P, P = (H ++ enc t4 l0 ++ enc t4 l1 ++ enc t1 [ub up] ++ encS [x0, x1, x2, x3, x4, x5, x6, x7] ++ encS [y0, y1, y2, y3, y4, y5, y6, y7]).length := ⟨_, rfl⟩
    obtain ⟨P6, hP6⟩ : ∃ P, P = (H ++ enc t4 l0 ++ enc t4 l1 ++ enc t1 [ub up] ++ encS [x0, x1, x2, x3, x4, x5, x6, x7] ++ encS [y0, y1, y2, y3, y4, y5, y6, y7] ++ encS [z0, z1, z2, z3, z4, z5, z6, z7]).length := ⟨_, rfl⟩
    obtain ⟨P7, hP7⟩ : ∃ P, P = (H ++ enc t4 l0 ++ enc t4 l1 ++ enc t1 [ub up] ++ encS [x0, x1, x2, x3, x4, x5, x6, x7] ++ encS [y0, y1, y2, y3, y4, y5, y6, y7] ++ encS [z0, z1, z2, z3, z4, z5, z6, z7] ++ enc t4 l6).length := ⟨_, rfl⟩
    have hPn : P7 = n := by rw [hP7, ← hle, HO.out, HBD.out]; simp only [List.append_assoc]
    have hPP1 : P1 = P0 + (enc t4 l0).length := by rw [hP1, hP0, List.length_append]
    have hPP2 : P2 = P1 + (enc t4 l1).length := by rw [hP2, hP1, List.length_append]
    have hPP3 : P3 = P2 + (enc t1 [ub up]).length := by rw [hP3, hP2, List.length_append]
    have hPP4 : P4 = P3 + (encS [x0, x1, x2, x3, x4, x5, x6, x7]).length := by rw [hP4, hP3, List.length_append]
    have hPP5 : P5 = P4 + (encS [y0, y1, y2, y3, y4, y5, y6, y7]).length := by rw [hP5, hP4, List.length_append]
    have hPP6 : P6 = P5 + (encS [z0, z1, z2, z3, z4, z5, z6, z7]).length := by rw [hP6, hP5, List.length_append]
    have hPP7 : P7 = P6 + (enc t4 l6).length := by rw [hP7, hP6, List.length_append]
    obtain ⟨S0, hS0⟩ : ∃ S, S = (H).length + hd t4 l0.length := ⟨_, rfl⟩
    obtain ⟨S1, hS1⟩ : ∃ S, S = (H ++ enc t4 l0).length + hd t4 l1.length := ⟨_, rfl⟩
    obtain ⟨S2, hS2⟩ : ∃ S, S = (H ++ enc t4 l0 ++ enc t4 l1).length + hd t1 [ub up].length := ⟨_, rfl⟩
    obtain ⟨S3, hS3⟩ : ∃ S, S = (H ++ enc t4 l0 ++ enc t4 l1 ++ enc t1 [ub up]).length + hd t30 (encs [x0, x1, x2, x3, x4, x5, x6, x7]).length := ⟨_, rfl⟩
    obtain ⟨S4, hS4⟩ : ∃ S, S = (H ++ enc t4 l0 ++ enc t4 l1 ++ enc t1 [ub up] ++ encS [x0, x1, x2, x3, x4, x5, x6, x7]).length + hd t30 (encs [y0, y1, y2, y3, y4, y5, y6, y7]).length := ⟨_, rfl⟩
    obtain ⟨S5, hS5⟩ : ∃ S, S = (H ++ enc t4 l0 ++ enc t4 l1 ++ enc t1 [ub up] ++ encS [x0, x1, x2, x3, x4, x5, x6, x7] ++ encS [y0, y1, y2, y3, y4, y5, y6, y7]).length + hd t30 (encs [z0, z1, z2, z3, z4, z5, z6, z7]).length := ⟨_, rfl⟩
    obtain ⟨S6, hS6⟩ : ∃ S, S = (H ++ enc t4 l0 ++ enc t4 l1 ++ enc t1 [ub up] ++ encS [x0, x1, x2, x3, x4, x5, x6, x7] ++ encS [y0, y1, y2, y3, y4, y5, y6, y7] ++ encS [z0, z1, z2, z3, z4, z5, z6, z7]).length + hd t4 l6.length := ⟨_, rfl⟩
    have hS21 : S2 + 1 = P3 := by rw [hS2, hPP3, hP2, enc_hd t1 [ub up], Nat.add_assoc]; rfl
    have hP0h : P0 = hd tCI bd.length := by rw [hP0, ← hHl]
    have b1 : P1 ≤ n := by omega
    have b2 : P2 ≤ n := by omega
    have b3 : P3 ≤ n := by omega
    have b4 : P4 ≤ n := by omega
    have b5 : P5 ≤ n := by omega
    have b6' : P6 ≤ n := by omega
    have bs1 : S2 + 1 ≤ P3 := by omega
    have bs2 : P3 ≤ S2 + 1 := by omega
    have hEn : n = ([] ++ enc tCI bd).length := by rw [List.nil_append]; exact hle0.symm
    have hbt : bt O S2 = ub up := by
      have := bt_contents (H ++ enc t4 l0 ++ enc t4 l1) [ub up] (encS [x0, x1, x2, x3, x4, x5, x6, x7] ++ (encS [y0, y1, y2, y3, y4, y5, y6, y7] ++ (encS [z0, z1, z2, z3, z4, z5, z6, z7] ++ (enc t4 l6)))) t1 0 (by simp)
      rw [HO.out, HBD.out, hS2]
      simp only [encS, List.append_assoc, Nat.add_zero] at this ⊢
      rw [this]; rfl
    have HP0 := Hid.intro hP0
    have HP1 := Hid.intro hP1
    have HP2 := Hid.intro hP2
    have HP3 := Hid.intro hP3
    have HP4 := Hid.intro hP4
    have HP5 := Hid.intro hP5
    have HP6 := Hid.intro hP6
    have HP7 := Hid.intro hP7
    have HS0 := Hid.intro hS0
    have HS1 := Hid.intro hS1
    have HS2 := Hid.intro hS2
    have HS3 := Hid.intro hS3
    have HS4 := Hid.intro hS4
    have HS5 := Hid.intro hS5
    have HS6 := Hid.intro hS6
    have HEN := Hid.intro hEn
    have HPN := Hid.intro hPn
    have HP0H := Hid.intro hP0h
    have HBT := Hid.intro hbt
    clear hP0 hP1 hP2 hP3 hP4 hP5 hP6 hP7 hS0 hS1 hS2 hS3 hS4 hS5 hS6 hPP1 hPP2 hPP3 hPP4 hPP5 hPP6 hPP7 hEn hPn hP0h hbt hHl hS21 hle hle0 hen hll hts m0 m1 m2 m3 m4 m5 m6 hbd
    go_wp2_with fail
    refine (elem_g w5 g n cap O hbuf [] bd [] tCI HO0.out _ rfl n P0 n (by rw [HP0H.out]; simp) HEN.out (Nat.le_refl _) (Nat.le_refl _) hn1 (by omega)).mono ?_
    rintro e w6 ⟨rfl, g6⟩
    have hb6 := hbuf.grown g6
    go_wp2_with fail
    refine (elem_g w6 g n cap O hb6 (H) l0 (enc t4 l1 ++ (enc t1 [ub up] ++ (encS [x0, x1, x2, x3, x4, x5, x6, x7] ++ (encS [y0, y1, y2, y3, y4, y5, y6, y7] ++ (encS [z0, z1, z2, z3, z4, z5, z6, z7] ++ (enc t4 l6)))))) t4 (by rw [HO.out, HBD.out]; simp only [encS, List.append_assoc]) _ (by rw [HP0.out]) n S0 P1 HS0.out HP1.out (by omega) (Nat.le_refl _) hn1 (by rw [i0.size]; omega)).mono ?_
    rintro e w7 ⟨rfl, g7⟩
    have hb7 := hb6.grown g7
    have a7 := kept0 y0' (grownBy_trans g6 g7 (.inl rfl))
    go_wp2_with fail
    refine (same_g w7 g n cap O hb7 (H) l0 (enc t4 l1 ++ (enc t1 [ub up] ++ (encS [x0, x1, x2, x3, x4, x5, x6, x7] ++ (encS [y0, y1, y2, y3, y4, y5, y6, y7] ++ (encS [z0, z1, z2, z3, z4, z5, z6, z7] ++ (enc t4 l6)))))) t4 (by rw [HO.out, HBD.out]; simp only [encS, List.append_assoc]) S0 P1 HS0.out HP1.out (by omega) hn1 w.heap.size _ _ a7 i0.byte).mono ?_
    rintro e w8 ⟨rfl, g8⟩
    have hb8 := hb7.grown g8
    go_wp2_with fail
    refine (elem_g w8 g n cap O hb8 (H ++ enc t4 l0) l1 (enc t1 [ub up] ++ (encS [x0, x1, x2, x3, x4, x5, x6, x7] ++ (encS [y0, y1, y2, y3, y4, y5, y6, y7] ++ (encS [z0, z1, z2, z3, z4, z5, z6, z7] ++ (enc t4 l6))))) t4 (by rw [HO.out, HBD.out]; simp only [encS, List.append_assoc]) _ (by rw [HP1.out]) n S1 P2 HS1.out HP2.out (by omega) (Nat.le_refl _) hn1 (by rw [i1.size]; omega)).mono ?_
    rintro e w9 ⟨rfl, g9⟩
    have hb9 := hb8.grown g9
    have gg9 := grownBy_trans (grownBy_trans (grownBy_trans g6 g7 (.inl rfl)) g8 (.inl rfl)) g9 (.inl rfl)
    have a9 := kept0 y1' gg9
    go_wp2_with fail
    refine (same_g w9 g n cap O hb9 (H ++ enc t4 l0) l1 (enc t1 [ub up] ++ (encS [x0, x1, x2, x3, x4, x5, x6, x7] ++ (encS [y0, y1, y2, y3, y4, y5, y6, y7] ++ (encS [z0, z1, z2, z3, z4, z5, z6, z7] ++ (enc t4 l6))))) t4 (by rw [HO.out, HBD.out]; simp only [encS, List.append_assoc]) S1 P2 HS1.out HP2.out (by omega) hn1 w.heap.size _ _ a9 i1.byte).mono ?_
    rintro e w10 ⟨rfl, g10⟩
    have hb10 := hb9.grown g10
    go_wp2_with fail
    refine (elem_g w10 g n cap O hb10 (H ++ enc t4 l0 ++ enc t4 l1) [ub up] (encS [x0, x1, x2, x3, x4, x5, x6, x7] ++ (encS [y0, y1, y2, y3, y4, y5, y6, y7] ++ (encS [z0, z1, z2, z3, z4, z5, z6, z7] ++ (enc t4 l6)))) t1 (by rw [HO.out, HBD.out]; simp only [encS, List.append_assoc]) _ (by rw [HP2.out]) n S2 P3 HS2.out HP3.out (by omega) (Nat.le_refl _) hn1 (by simp)).mono ?_
    rintro e w11 ⟨rfl, g11⟩
    have hb11 := hb10.grown g11
    have gg11 := grownBy_trans (grownBy_trans gg9 g10 (.inl rfl)) g11 (.inl rfl)
    clear g6 g7 g8 g9 g10 g11 hb6 hb7 hb8 hb9 hb10 a7 a9 gg9
    go_upto_if 146 with fail
    go_cut [23] from 24 (fun v wc => v = .int .u8 (ub up : Nat) ∧ w11 = wc)
    case first =>
      cases up
      · go_wp2
        go_meet
        case rel => exact ⟨rfl, rfl⟩
      · go_wp2
        go_meet
        case rel => exact ⟨rfl, rfl⟩
    case rest =>
    obtain ⟨rfl, rfl⟩ := hcut
    have cS := hb11.cell S2 (by omega)
    rw [HBT.out] at cS
    go_wp2_with fail
    refine (elem_g w11 g n cap O hb11 (H ++ enc t4 l0 ++ enc t4 l1 ++ enc t1 [ub up]) (encs [x0, x1, x2, x3, x4, x5, x6, x7]) (encS [y0, y1, y2, y3, y4, y5, y6, y7] ++ (encS [z0, z1, z2, z3, z4, z5, z6, z7] ++ (enc t4 l6))) t30 (by rw [HO.out, HBD.out]; simp only [encS, List.append_assoc]) _ (by rw [HP3.out]) n S3 P4 HS3.out HP4.out (by omega) (Nat.le_refl _) hn1 (by have := encs_le [x0, x1, x2, x3, x4, x5, x6, x7]; simp at this; omega)).mono ?_
    rintro e w12 ⟨rfl, g12⟩
    have hb12 := hb11.grown g12
    have gg12 := grownBy_trans gg11 g12 (.inl rfl)
    clear cS
    have vuX := st_kept uX.out gg12
    have d0 : w12.cell? ⟨w.heap.size, 0, none⟩ = some (.int .i64 x0) := (cell_of_row w12 (w.heap.size) 0 _ 37 (0, 0) vuX).trans rfl
    have d1 : w12.cell? ⟨w.heap.size, 1, none⟩ = some (.int .i64 x1) := (cell_of_row w12 (w.heap.size) 1 _ 37 (0, 0) vuX).trans rfl
    have d2 : w12.cell? ⟨w.heap.size, 2, none⟩ = some (.int .i64 x2) := (cell_of_row w12 (w.heap.size) 2 _ 37 (0, 0) vuX).trans rfl
    have d3 : w12.cell? ⟨w.heap.size, 3, none⟩ = some (.int .i64 x3) := (cell_of_row w12 (w.heap.size) 3 _ 37 (0, 0) vuX).trans rfl
    have d4 : w12.cell? ⟨w.heap.size, 4, none⟩ = some (.int .i64 x4) := (cell_of_row w12 (w.heap.size) 4 _ 37 (0, 0) vuX).trans rfl
    have d5 : w12.cell? ⟨w.heap.size, 5, none⟩ = some (.int .i64 x5) := (cell_of_row w12 (w.heap.size) 5 _ 37 (0, 0) vuX).trans rfl
    have d6 : w12.cell? ⟨w.heap.size, 6, none⟩ = some (.int .i64 x6) := (cell_of_row w12 (w.heap.size) 6 _ 37 (0, 0) vuX).trans rfl
    have d7 : w12.cell? ⟨w.heap.size, 7, none⟩ = some (.int .i64 x7) := (cell_of_row w12 (w.heap.size) 7 _ 37 (0, 0) vuX).trans rfl
    clear vuX
    go_wp2_with fail
    refine (sh_g w12 g n cap O hb12 (H ++ enc t4 l0 ++ enc t4 l1 ++ enc t1 [ub up]) (encS [y0, y1, y2, y3, y4, y5, y6, y7] ++ (encS [z0, z1, z2, z3, z4, z5, z6, z7] ++ (enc t4 l6))) x0 x1 x2 x3 x4 x5 x6 x7 hx (by rw [HO.out, HBD.out]; simp only [List.append_assoc]) S3 P4 HS3.out HP4.out hn1).mono ?_
    rintro e w13 ⟨rfl, g13⟩
    have hb13 := hb12.grown g13
    clear d0 d1 d2 d3 d4 d5 d6 d7
    go_wp2_with fail
    refine (elem_g w13 g n cap O hb13 (H ++ enc t4 l0 ++ enc t4 l1 ++ enc t1 [ub up] ++ encS [x0, x1, x2, x3, x4, x5, x6, x7]) (encs [y0, y1, y2, y3, y4, y5, y6, y7]) (encS [z0, z1, z2, z3, z4, z5, z6, z7] ++ (enc t4 l6)) t30 (by rw [HO.out, HBD.out]; simp only [encS, List.append_assoc]) _ (by rw [HP4.out]) n S4 P5 HS4.out HP5.out (by omega) (Nat.le_refl _) hn1 (by have := encs_le [y0, y1, y2, y3, y4, y5, y6, y7]; simp at this; omega)).mono ?_
    rintro e w14 ⟨rfl, g14⟩
    have hb14 := hb13.grown g14
    have gg14 := grownBy_trans (grownBy_trans gg12 g13 (.inl rfl)) g14 (.inl rfl)
    have vuY := st_kept uY.out gg14
    have d0 : w14.cell? ⟨w.heap.size + 1, 0, none⟩ = some (.int .i64 y0) := (cell_of_row w14 (w.heap.size + 1) 0 _ 37 (0, 0) vuY).trans rfl
    have d1 : w14.cell? ⟨w.heap.size + 1, 1, none⟩ = some (.int .i64 y1) := (cell_of_row w14 (w.heap.size + 1) 1 _ 37 (0, 0) vuY).trans rfl
    have d2 : w14.cell? ⟨w.heap.size + 1, 2, none⟩ = some (.int .i64 y2) := (cell_of_row w14 (w.heap.size + 1) 2 _ 37 (0, 0) vuY).trans rfl
    have d3 : w14.cell? ⟨w.heap.size + 1, 3, none⟩ = some (.int .i64 y3) := (cell_of_row w14 (w.heap.size + 1) 3 _ 37 (0, 0) vuY).trans rfl
    have d4 : w14.cell? ⟨w.heap.size + 1, 4, none⟩ = some (.int .i64 y4) := (cell_of_row w14 (w.heap.size + 1) 4 _ 37 (0, 0) vuY).trans rfl
    have d5 : w14.cell? ⟨w.heap.size + 1, 5, none⟩ = some (.int .i64 y5) := (cell_of_row w14 (w.heap.size + 1) 5 _ 37 (0, 0) vuY).trans rfl
    have d6 : w14.cell? ⟨w.heap.size + 1, 6, none⟩ = some (.int .i64 y6) := (cell_of_row w14 (w.heap.size + 1) 6 _ 37 (0, 0) vuY).trans rfl
    have d7 : w14.cell? ⟨w.heap.size + 1, 7, none⟩ = some (.int .i64 y7) := (cell_of_row w14 (w.heap.size + 1) 7 _ 37 (0, 0) vuY).trans rfl
    clear vuY
    go_wp2_with fail
    refine (sh_g w14 g n cap O hb14 (H ++ enc t4 l0 ++ enc t4 l1 ++ enc t1 [ub up] ++ encS [x0, x1, x2, x3, x4, x5, x6, x7]) (encS [z0, z1, z2, z3, z4, z5, z6, z7] ++ (enc t4 l6)) y0 y1 y2 y3 y4 y5 y6 y7 hy (by rw [HO.out, HBD.out]; simp only [List.append_assoc]) S4 P5 HS4.out HP5.out hn1).mono ?_
    rintro e w15 ⟨rfl, g15⟩
    have hb15 := hb14.grown g15
    clear d0 d1 d2 d3 d4 d5 d6 d7
    go_wp2_with fail
    refine (elem_g w15 g n cap O hb15 (H ++ enc t4 l0 ++ enc t4 l1 ++ enc t1 [ub up] ++ encS [x0, x1, x2, x3, x4, x5, x6, x7] ++ encS [y0, y1, y2, y3, y4, y5, y6, y7]) (encs [z0, z1, z2, z3, z4, z5, z6, z7]) (enc t4 l6) t30 (by rw [HO.out, HBD.out]; simp only [encS, List.append_assoc]) _ (by rw [HP5.out]) n S5 P6 HS5.out HP6.out (by omega) (Nat.le_refl _) hn1 (by have := encs_le [z0, z1, z2, z3, z4, z5, z6, z7]; simp at this; omega)).mono ?_
    rintro e w16 ⟨rfl, g16⟩
    have hb16 := hb15.grown g16
    have gg16 := grownBy_trans (grownBy_trans gg14 g15 (.inl rfl)) g16 (.inl rfl)
    have vuZ := st_kept uZ.out gg16
    have d0 : w16.cell? ⟨w.heap.size + 1 + 1, 0, none⟩ = some (.int .i64 z0) := (cell_of_row w16 (w.heap.size + 1 + 1) 0 _ 37 (0, 0) vuZ).trans rfl
    have d1 : w16.cell? ⟨w.heap.size + 1 + 1, 1, none⟩ = some (.int .i64 z1) := (cell_of_row w16 (w.heap.size + 1 + 1) 1 _ 37 (0, 0) vuZ).trans rfl
    have d2 : w16.cell? ⟨w.heap.size + 1 + 1, 2, none⟩ = some (.int .i64 z2) := (cell_of_row w16 (w.heap.size + 1 + 1) 2 _ 37 (0, 0) vuZ).trans rfl
    have d3 : w16.cell? ⟨w.heap.size + 1 + 1, 3, none⟩ = some (.int .i64 z3) := (cell_of_row w16 (w.heap.size + 1 + 1) 3 _ 37 (0, 0) vuZ).trans rfl
    have d4 : w16.cell? ⟨w.heap.size + 1 + 1, 4, none⟩ = some (.int .i64 z4) := (cell_of_row w16 (w.heap.size + 1 + 1) 4 _ 37 (0, 0) vuZ).trans rfl
    have d5 : w16.cell? ⟨w.heap.size + 1 + 1, 5, none⟩ = some (.int .i64 z5) := (cell_of_row w16 (w.heap.size + 1 + 1) 5 _ 37 (0, 0) vuZ).trans rfl
    have d6 : w16.cell? ⟨w.heap.size + 1 + 1, 6, none⟩ = some (.int .i64 z6) := (cell_of_row w16 (w.heap.size + 1 + 1) 6 _ 37 (0, 0) vuZ).trans rfl
    have d7 : w16.cell? ⟨w.heap.size + 1 + 1, 7, none⟩ = some (.int .i64 z7) := (cell_of_row w16 (w.heap.size + 1 + 1) 7 _ 37 (0, 0) vuZ).trans rfl
    clear vuZ
    go_wp2_with fail
    refine (sh_g w16 g n cap O hb16 (H ++ enc t4 l0 ++ enc t4 l1 ++ enc t1 [ub up] ++ encS [x0, x1, x2, x3, x4, x5, x6, x7] ++ encS [y0, y1, y2, y3, y4, y5, y6, y7]) (enc t4 l6) z0 z1 z2 z3 z4 z5 z6 z7 hz (by rw [HO.out, HBD.out]; simp only [List.append_assoc]) S5 P6 HS5.out HP6.out hn1).mono ?_
    rintro e w17 ⟨rfl, g17⟩
    have hb17 := hb16.grown g17
    clear d0 d1 d2 d3 d4 d5 d6 d7
    go_wp2_with fail
    refine (elem_g w17 g n cap O hb17 (H ++ enc t4 l0 ++ enc t4 l1 ++ enc t1 [ub up] ++ encS [x0, x1, x2, x3, x4, x5, x6, x7] ++ encS [y0, y1, y2, y3, y4, y5, y6, y7] ++ encS [z0, z1, z2, z3, z4, z5, z6, z7]) l6 ([]) t4 (by rw [HO.out, HBD.out]; simp only [encS, List.append_assoc, List.append_nil]) _ (by rw [HP6.out]) n S6 P7 HS6.out HP7.out (by rw [HPN.out]; omega) (Nat.le_refl _) hn1 (by rw [i6.size]; omega)).mono ?_
    rintro e w18 ⟨rfl, g18⟩
    have hb18 := hb17.grown g18
    have gg18 := grownBy_trans (grownBy_trans gg16 g17 (.inl rfl)) g18 (.inl rfl)
    have a18 := kept0 y6' gg18
    go_wp2_with fail
    refine (same_g w18 g n cap O hb18 (H ++ enc t4 l0 ++ enc t4 l1 ++ enc t1 [ub up] ++ encS [x0, x1, x2, x3, x4, x5, x6, x7] ++ encS [y0, y1, y2, y3, y4, y5, y6, y7] ++ encS [z0, z1, z2, z3, z4, z5, z6, z7]) l6 ([]) t4 (by rw [HO.out, HBD.out]; simp only [encS, List.append_assoc, List.append_nil]) S6 P7 HS6.out HP7.out (by rw [HPN.out]; omega) hn1 w.heap.size _ _ a18 i6.byte).mono ?_
    rintro e w19 ⟨rfl, g19⟩
    have hb19 := hb18.grown g19
    have hPN := HPN.out
    subst hPN
    go_wp2
    go_ret
    exact ⟨rfl, below_of (grownBy_trans gw5 (grownBy_trans gg18 g19 (.inl rfl)) (.inl rfl))⟩
  · have hno := zb20_no (((w.alloc (.cells #[.int .i64 x0, .int .i64 x1, .int .i64 x2, .int .i64 x3, .int .i64 x4, .int .i64 x5, .int .i64 x6, .int .i64 x7] 37)).alloc (.cells #[.int .i64 y0, .int .i64 y1, .int .i64 y2, .int .i64 y3, .int .i64 y4, .int .i64 y5, .int .i64 y6, .int .i64 y7] 37)).alloc (.cells #[.int .i64 z0, .int .i64 z1, .int .i64 z2, .int .i64 z3, .int .i64 z4, .int .i64 z5, .int .i64 z6, .int .i64 z7] 37)) a0 len0 cap0 a1 len1 cap1 (.bool up) #[.int .i64 x0, .int .i64 x1, .int .i64 x2, .int .i64 x3, .int .i64 x4, .int .i64 x5, .int .i64 x6, .int .i64 x7] #[.int .i64 y0, .int .i64 y1, .int .i64 y2, .int .i64 y3, .int .i64 y4, .int .i64 y5, .int .i64 y6, .int .i64 y7] #[.int .i64 z0, .int .i64 z1, .int .i64 z2, .int .i64 z3, .int .i64 z4, .int .i64 z5, .int .i64 z6, .int .i64 z7] a6 len6 cap6 q0.len_le q1.len_le q6.len_le hsum
    have GW := Hid.intro gW
    clear gW
    go_enter Try.func8, Try.ntmps8
    go_wp2_with fail
    refine hno.mono ?_
    rintro e w' ⟨rfl, g1⟩
    go_wp2
    go_ret
    exact ⟨rfl, below_of (grownBy_trans GW.out g1 (.inl rfl))⟩
end fnMarshalRoundTrip
end Go.Proofs.Qxb6001432a
