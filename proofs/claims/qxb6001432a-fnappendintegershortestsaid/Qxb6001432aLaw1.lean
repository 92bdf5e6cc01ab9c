/-
  THE WALK OF FnAppendIntegerShortest (4).
-/
import Derived.Test.Qxb6001432aInteger
import Derived.Test.Qxb6001432aRead
import Derived.OpenShut
namespace Go.Proofs.Qxb6001432a.fnAppendIntegerShortest
open Go.RowKit

set_option maxRecDepth 100000 in
theorem walk (a0 : Int) (w0 : (Lit.int .i64 a0).wf = true) (w : World) :
    Calls Try.prog 4 #[.int .i64 a0] w fun e w' => e = .returned (.bool true) ∧ Below w.heap.size w w' := by
  obtain ⟨hx0, hx1⟩ := bounds_i64 w0
  have hb := ilen_bd a0
  go_enter Try.func4, Try.ntmps4
  go_wp2_with (first | (go_at_call 11; go_in) | fail)
  refine (ai_any w w.heap.size (.slice none 0 0) 0 [] (World.ownsRow_nil _ _ _ _) (Nat.le_refl _) a0 hx0 hx1 (by omega)).mono ?_
  rintro e w1 ⟨v1, rfl, h1⟩
  have hown := h1.own
  rw [encI_length, ← B_append, List.nil_append] at hown
  obtain ⟨n, hn⟩ : ∃ n, n = 0 + (2 + ilen a0) := ⟨_, rfl⟩
  rw [← hn] at hown
  obtain ⟨g, cap, hv⟩ := own_some hown (by omega)
  subst hv
  have hbuf := Buf.of_own hown (encI_byte a0)
  have hbel : Below w.heap.size w w1 := (Below.refl _ _).grown h1.grown (Nat.le_refl _) (fun k hk => by simp [Value.ownBlock] at hk)
  have c0 := hbuf.cell 0 (by omega)
  have c1 := hbuf.cell 1 (by omega)
  have e0 : bt (encI a0) 0 = 2 := by rw [encI_eq]; rfl
  have e1 : bt (encI a0) 1 = ilen a0 := by rw [encI_eq]; rfl
  rw [e0] at c0
  rw [e1] at c1
  have hmin : 2 + 1 < 2 + ilen a0 → ¬ (bt (encI a0) 2 = 0 ∧ bt (encI a0) (2 + 1) < 128) ∧ ¬ (bt (encI a0) 2 = 255 ∧ 128 ≤ bt (encI a0) (2 + 1)) := by
    intro h
    have := ib_min a0 hx0 hx1 (by omega)
    have b0 := bt_encI a0 0 (by omega)
    have b1 := bt_encI a0 1 (by omega)
    simp only [Nat.add_zero] at b0
    rw [b0, b1]
    exact this
  have hcall := min_any w1 g n cap (encI a0) hbuf 2 (2 + ilen a0) 2 (2 + (ilen a0 : Int)) rfl (by omega) (by omega) (by omega) (by omega) hmin
  generalize ilen a0 = N at *
  have hnn : n = 2 + N := by omega
  clear hn hmin e0 e1 hown h1 hbuf
  subst hnn
  go_wp2_with fail
  refine hcall.mono ?_
  rintro e w' ⟨rfl, rfl⟩
  go_wp2
  go_ret
  exact ⟨rfl, hbel⟩
end Go.Proofs.Qxb6001432a.fnAppendIntegerShortest
