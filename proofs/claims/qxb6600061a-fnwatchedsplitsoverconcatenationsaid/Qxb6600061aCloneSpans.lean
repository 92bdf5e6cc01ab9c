/-
  THE WALK OF cloneSpans (12).
-/
import Derived.Test.Qxb6600061aClone
import Derived.Test.Qxb6600061aTab
import Derived.Deep.RegionHeld3
namespace Go.Proofs.Qxb6600061a
open Go.RowKit

theorem info31 : (Try.prog.info? 31).map (fun i => (i.zero, i.size, i.bytes)) = some (some (.agg #[.int .i64 0, .int .i64 0, .int .i64 0, .slice none 0 0]), 4, 48) := by kernel_rfl

/-- Its watch is the call's own, at or behind block b. -/
def OwnW (w : World) (b : Nat) (s : Sp) : Prop := w.ownsRow b 2 1 (.slice s.wa s.wn s.wc) s.wn (s.wl.map (Value.int .i64))
theorem OwnW.kept {w w' : World} {b : Nat} {s : Sp} {row : Option Nat} (h : OwnW w b s) (hg : w.grownBy w' row) (hr : ∀ k, row = some k → k < b) : OwnW w' b s := by
  refine World.ownsRow.kept h hg ?_
  cases ho : (Value.slice s.wa s.wn s.wc).ownBlock with
  | none => exact .inl rfl
  | some g =>
    right
    intro hc
    have h1 := (World.ownsRow.lt h g ho).1
    have h2 := hr g hc.symm
    omega
theorem OwnW.ok {w : World} {b : Nat} {s : Sp} (h : OwnW w b s) : SOk w s := ⟨Row.of_own h, by have := h.1; simpa using this⟩

theorem grown_of_drew {w w' : World} {r : Option Nat} (h : w.drew.grownBy w' r) : w.grownBy w' r := ⟨h.os, h.tape, h.output, h.size, h.block⟩
theorem grown_some {w w' : World} (h : w.grownBy w' none) (g : Nat) : w.grownBy w' (some g) := ⟨h.os, h.tape, h.output, h.size, fun k hk _ => h.block k hk (by simp)⟩
theorem own_up {w : World} {b b' : Nat} {e : TypeId} {z : Nat} {v : Value} {n : Nat} {xs : List Value} (h : w.ownsRow b e z v n xs) (hb : b' ≤ b) : w.ownsRow b' e z v n xs :=
  ⟨h.1, h.2.imp id fun ⟨g, cap, cur, a1, a2, a3⟩ => ⟨g, cap, cur, a1, Nat.le_trans hb a2, a3⟩⟩
/-- A row of four cells stored anew at place i. -/
theorem stored_at {wy : World} {g N : Nat} {l : List Sp} {i : Nat} (h : wy.ownsRow g 31 4 (.slice (some ⟨g, 0, none⟩) N N) N (tabS 4 c4 N l)) (hl : l.length = i) (lo hi pd : Int) (wa : Option Addr) (wn wc : Nat) (wl : List Int) :
    ((((wy.setCell ⟨g, i * 4, none⟩ (.int .i64 lo)).setCell ⟨g, i * 4 + 1, none⟩ (.int .i64 hi)).setCell ⟨g, i * 4 + 2, none⟩ (.int .i64 pd)).setCell ⟨g, i * 4 + 3, none⟩ (.slice wa wn wc)).ownsRow g 31 4 (.slice (some ⟨g, 0, none⟩) N N) N (tabS 4 c4 N (l ++ [⟨lo, hi, pd, wa, wn, wc, wl⟩])) ∧
    wy.grownBy ((((wy.setCell ⟨g, i * 4, none⟩ (.int .i64 lo)).setCell ⟨g, i * 4 + 1, none⟩ (.int .i64 hi)).setCell ⟨g, i * 4 + 2, none⟩ (.int .i64 pd)).setCell ⟨g, i * 4 + 3, none⟩ (.slice wa wn wc)) (some g) := by
  have hst := stored4 h (i * 4) (.int .i64 lo) (.int .i64 hi) (.int .i64 pd) (.slice wa wn wc)
  have e := tab4_step c4 N i l ⟨lo, hi, pd, wa, wn, wc, wl⟩ hl
  refine ⟨?_, hst.2⟩
  rw [← e]
  exact hst.1
theorem tab_cell {w : World} {g N : Nat} {l : List Sp} (h : w.ownsRow g 31 4 (.slice (some ⟨g, 0, none⟩) N N) N (tabS 4 c4 N l)) (i q : Nat) (hi : i < N) (hq : q < 4) : w.cell? ⟨g, i * 4 + q, none⟩ = some (c4 (ga dS l i) q) := by
  rw [h.cellAt (i * 4 + q) (by omega)]; exact tabS_at 4 c4 N _ i q hi hq

set_option maxRecDepth 100000 in
theorem cp_nil (w : World) (cap : Nat) : Calls Try.prog 12 #[.slice none 0 cap] w fun e w' => e = .returned (.slice none 0 0) ∧ w' = w := by
  have hq := fun wx => Lib.run_eql_slice_nil (P := Try.prog) wx 22 31 none 0 cap 0 0 Try.underlying22
  go_enter Try.func12, Try.ntmps12
  go_wp2
  go_ret
  exact ⟨rfl, rfl⟩

/-- What the loop of cloneSpans keeps. -/
def CpRel (w : World) (g N : Nat) (l : List Sp) (i : Nat) (wr : World) : Prop :=
  ∃ l' : List Sp, l'.length = i ∧ l'.map Sp.wl = (l.take i).map Sp.wl ∧ (∀ j, j < i → OwnW wr (g + 1) (ga dS l' j)) ∧ wr.ownsRow g 31 4 (.slice (some ⟨g, 0, none⟩) N N) N (tabS 4 c4 N l') ∧ w.grownBy wr none

set_option maxRecDepth 100000 in
set_option maxHeartbeats 2000000 in
theorem cp_some (w : World) (x : Addr) (N cap : Nat) (l : List Sp) (hr : SRow w (some x) l) (hl : l.length = N) (hlen : N ≤ 1048576) (hw : ∀ j, j < l.length → (ga dS l j).wn ≤ 1048576) :
    Calls Try.prog 12 #[.slice (some x) N cap] w fun e w' => e = .returned (.slice (some ⟨w.heap.size, 0, none⟩) N N) ∧ CpRel w w.heap.size N l N w' := by
  obtain ⟨i0, hi, hz0, hz1, hz2⟩ := info_parts info31
  have hq := fun wx => Lib.run_eql_slice_nil (P := Try.prog) wx 22 31 (some x) N cap 0 0 Try.underlying22
  have HL := Hid.intro hl
  have HR := Hid.intro hr
  have HW := Hid.intro hw
  clear hl hr hw
  go_enter Try.func12, Try.ntmps12
  go_wp2_with (at_make; go_loud (refine wpList_make_full _ rfl _ _ 22 rfl w.heap.size 31 i0 _ 4 Try.underlying22 hi hz0 hz1 .i64 .i64 _ _ N rfl rfl rfl rfl (by rw [hz2]; omega) (by unfold maxLen; omega) (Nat.le_refl _) ?_))
  intro w1 ho1 hg1
  have ho1' : w1.ownsRow w.heap.size 31 4 (.slice (some ⟨w.heap.size, 0, none⟩) N N) N (tabS 4 c4 N []) := by
    rw [← made_tab 4 c4 N #[.int .i64 0, .int .i64 0, .int .i64 0, .slice none 0 0] rfl (by omega) (fun q hq => by
      obtain rfl | rfl | rfl | rfl : q = 0 ∨ q = 1 ∨ q = 2 ∨ q = 3 := by omega
      all_goals rfl)]
    exact ho1
  clear ho1 hq
  go_wp2_with fail
  go_loopw [4] (fun c wr => ∃ i : Nat, i ≤ N ∧ c = .int .i64 i ∧ CpRel w w.heap.size N l i wr) (fun c _ => N - (intOf c).toNat)
  case atStart => exact ⟨0, Nat.zero_le _, rfl, [], rfl, rfl, fun j hj => by omega, ho1', hg1⟩
  case round =>
    obtain ⟨i, hi, rfl, l', hl', hm', how', hoi, hgi⟩ := hrel
    by_cases hlt : i < N
    · obtain ⟨b, off, hx, hcell⟩ := HR.out.at (by rw [HL.out]; omega)
      cases hx
      obtain ⟨d0, d1, d2, d3⟩ := hcell i (by rw [HL.out]; exact hlt)
      have hbl : b < w.heap.size := World.block_lt_of_cell? w _ d0
      have hbw : ∀ q, q < N → True := fun _ _ => trivial
      have hne : ∀ o : Nat, (some (⟨b, o, none⟩ : Addr).block) ≠ some w.heap.size := fun o h => by simp at h; omega
      have r0 : ∀ wx, wr.grownBy wx (some w.heap.size) → wx.cell? ⟨b, off + i * 4, none⟩ = some (.int .i64 (ga dS l i).lo) := fun wx hg => hg.cell (hgi.cell d0 (by simp)) (hne _)
      have r1 : ∀ wx, wr.grownBy wx (some w.heap.size) → wx.cell? ⟨b, off + i * 4 + 1, none⟩ = some (.int .i64 (ga dS l i).hi) := fun wx hg => hg.cell (hgi.cell d1 (by simp)) (hne _)
      have r2 : ∀ wx, wr.grownBy wx (some w.heap.size) → wx.cell? ⟨b, off + i * 4 + 2, none⟩ = some (.int .i64 (ga dS l i).pd) := fun wx hg => hg.cell (hgi.cell d2 (by simp)) (hne _)
      have r3 : ∀ wx, wr.grownBy wx (some w.heap.size) → wx.cell? ⟨b, off + i * 4 + 3, none⟩ = some (.slice (ga dS l i).wa (ga dS l i).wn (ga dS l i).wc) := fun wx hg => hg.cell (hgi.cell d3 (by simp)) (hne _)
      have q1 : (i : Int) < (N : Int) := by omega
      have hok := (HR.out.ok i (by rw [HL.out]; exact hlt)).grown (grown_drew hgi)
      have hwn := HW.out i (by rw [HL.out]; exact hlt)
      have HOK := Hid.intro hok
      have HOW := Hid.intro how'
      have HOI := Hid.intro hoi
      have HM := Hid.intro hm'
      have HL' := Hid.intro hl'
      have HGI := Hid.intro hgi
      clear hcell d0 d1 d2 d3 hbw hne hok how' hoi hm' hl'
      obtain ⟨s, hs⟩ : ∃ s, s = ga dS l i := ⟨_, rfl⟩
      rw [← hs] at r0 r1 r2 r3 HOK hwn
      have HS := Hid.intro hs
      clear hs hgi
      go_wp2_with fail
      go_region_held3 (fun wx => wr.grownBy wx (some w.heap.size)) (first | exact grown_drew (World.grownBy.refl _ _) | exact grown_drew (by assumption) | assumption)
        (first | (go_at_call 13; refine (ci_any _ s.wa s.wn s.wc s.wl HOK.out.row HOK.out.len hwn).mono ?_; rintro e wy ⟨v', rfl, ho', hgy⟩
                  have hgz := grown_of_drew hgy
                  obtain ⟨wa', wc', rfl⟩ := ownsRow_shape ho'
                  have hoy := kept0 HOI.out hgz
                  have hst := stored_at hoy HL'.out s.lo s.hi s.pd wa' s.wn wc' s.wl
                  have hgS := grown_some hgz w.heap.size
                  have hgE := grownBy_trans hgS hst.2 (.inl rfl)
                  have f0 := tab_cell hoy i 0 hlt (by omega)
                  rw [Nat.add_zero] at f0
                  have f1 := tab_cell hoy i 1 hlt (by omega)
                  have f2 := tab_cell hoy i 2 hlt (by omega)
                  have f3 := tab_cell hoy i 3 hlt (by omega)
                  have z0 := hoy.frozenAt (i * 4)
                  have z1 := hoy.frozenAt (i * 4 + 1)
                  have z2 := hoy.frozenAt (i * 4 + 2)
                  have z3 := hoy.frozenAt (i * 4 + 3)
                  have HST := Hid.intro hst
                  have HO' := Hid.intro (id ho')
                  have HGZ := Hid.intro hgz
                  clear hst ho' hoy hgz hgy))
      clear r0 r1 r2 r3 f0 f1 f2 f3 z0 z1 z2 z3
      go_wp2
      go_roundw
      case rel =>
        refine ⟨i + 1, by omega, by go_num, l' ++ [⟨s.lo, s.hi, s.pd, wa', s.wn, wc', s.wl⟩], by simp [HL'.out], ?_, ?_, HST.out.1, ?_⟩
        · rw [take_ga l i (by rw [HL.out]; exact hlt), List.map_append, List.map_append, HM.out, ← HS.out]
          rfl
        · intro j hj
          rw [ga_snoc, HL'.out]
          have hgA := HGI.out.size
          split
          · exact OwnW.kept (s := ⟨s.lo, s.hi, s.pd, wa', s.wn, wc', s.wl⟩) (own_up HO'.out (HOI.out.lt w.heap.size rfl).2) HST.out.2 (fun k hk => by cases hk; omega)
          · exact ((HOW.out j (by omega)).kept HGZ.out (fun k hk => by cases hk)).kept HST.out.2 (fun k hk => by cases hk; omega)
        · exact grownBy_trans HGI.out hgE (.inr fun k hk => by cases hk; exact Nat.le_refl _)
      case measure => simp [intOf]; omega
    · obtain rfl : i = N := by omega
      have hrel : CpRel w w.heap.size i l i wr := ⟨l', hl', hm', how', hoi, hgi⟩
      have HRel := Hid.intro hrel
      clear hl' hm' how' hoi hgi hrel
      go_wp2
      go_ret
      exact ⟨rfl, HRel.out⟩

/-- Nil or not. -/
theorem cp_any (w : World) (a : Option Addr) (N cap : Nat) (l : List Sp) (hr : SRow w a l) (hl : l.length = N) (hlen : N ≤ 1048576) (hw : ∀ j, j < l.length → (ga dS l j).wn ≤ 1048576) :
    Calls Try.prog 12 #[.slice a N cap] w fun e w' => ∃ a' l', e = .returned (.slice a' N N) ∧ SRow w' a' l' ∧ l'.length = N ∧ l'.map Sp.wl = l.map Sp.wl ∧ w.grownBy w' none := by
  cases a with
  | none =>
    obtain rfl := hr.nil rfl
    subst hl
    refine (cp_nil w cap).mono ?_
    rintro e w' ⟨rfl, rfl⟩
    exact ⟨none, [], rfl, hr, rfl, rfl, World.grownBy.refl _ _⟩
  | some x =>
    refine (cp_some w x N cap l hr hl hlen hw).mono ?_
    rintro e w' ⟨rfl, l', hl', hm', how', hoi, hgi⟩
    refine ⟨_, l', rfl, SRow.of_own hoi hl' (fun j hj => (how' j (by omega)).ok), hl', ?_, hgi⟩
    rw [hm', ← hl, List.take_length]
end Go.Proofs.Qxb6600061a
