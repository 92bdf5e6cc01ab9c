/-
  THE SEAT's PLAIN MATHEMATICS, more: what a reader of the bytes sees.
-/
import Derived.Test.Qxb6001432aPlain
import Derived.Deep.Draws
namespace Go.Proofs.Qxb6001432a

/-- Byte j of a list (0 behind its end): a name that the walk does not open. -/
def bt (l : List Nat) (j : Nat) : Nat := l.getD j 0
theorem bt_left (a b : List Nat) (j : Nat) (h : j < a.length) : bt (a ++ b) j = bt a j := by simp [bt, List.getD, List.getElem?_append_left h]
theorem bt_right (a b : List Nat) (j : Nat) (h : a.length ≤ j) : bt (a ++ b) j = bt b (j - a.length) := by simp [bt, List.getD, List.getElem?_append_right h]
theorem bt_lt (l : List Nat) (h : ∀ x ∈ l, x < 256) (j : Nat) : bt l j < 256 := by
  unfold bt List.getD
  cases e : l[j]? with
  | none => simp
  | some x => exact h x (List.mem_of_getElem? e)
/-- A row of bytes at the head of block g. -/
structure Buf (w : World) (g n : Nat) (l : List Nat) : Prop where
  len : l.length = n
  byte : ∀ x ∈ l, x < 256
  cell : ∀ j, j < n → w.cell? ⟨g, j, none⟩ = some (.int .u8 (bt l j : Nat))
theorem Buf.of_own {w : World} {base g n cap : Nat} {l : List Nat} (h : w.ownsRow base 5 1 (.slice (some ⟨g, 0, none⟩) n cap) n (B l)) (hb : ∀ x ∈ l, x < 256) : Buf w g n l := by
  have hl : l.length = n := by have := h.1; rw [B_length] at this; omega
  exact ⟨hl, hb, fun j hj => by rw [h.cellAt j (by omega), B_get _ _ (by omega)]; rfl⟩
theorem Buf.lt {w : World} {g n : Nat} {l : List Nat} (h : Buf w g n l) (j : Nat) : bt l j < 256 := bt_lt l h.byte j
theorem Buf.drewN {w : World} {g n : Nat} {l : List Nat} (h : Buf w g n l) (k : Nat) : Buf (w.drewN k) g n l := by
  refine ⟨h.len, h.byte, fun j hj => ?_⟩
  have := h.cell j hj
  simpa using this

theorem own_some {w : World} {base : Nat} {e : TypeId} {size : Nat} {v : Value} {n : Nat} {xs : List Value} (h : w.ownsRow base e size v n xs) (hn : 0 < n) : ∃ g cap, v = .slice (some ⟨g, 0, none⟩) n cap := by
  rcases h.2 with ⟨rfl, rfl⟩ | ⟨g, cap, cur, rfl, _⟩
  · omega
  · exact ⟨g, cap, rfl⟩

/-- The shortest form opens with no redundant octet. -/
theorem ib_min (v : Int) (hv0 : -9223372036854775808 ≤ v) (hv1 : v ≤ 9223372036854775807) (h : 1 < ilen v) :
    ¬ (ib v (ilen v) 0 = 0 ∧ ib v (ilen v) 1 < 128) ∧ ¬ (ib v (ilen v) 0 = 255 ∧ 128 ≤ ib v (ilen v) 1) := by
  have hb := ilen_bd v
  have e0 := ib_cast v (ilen v) 0
  have e1 := ib_cast v (ilen v) 1
  have q1 := ilen_1 v
  have q2 := ilen_2 v
  have q3 := ilen_3 v
  have q4 := ilen_4 v
  have q5 := ilen_5 v
  have q6 := ilen_6 v
  have q7 := ilen_7 v
  generalize ilen v = N at *
  obtain rfl | rfl | rfl | rfl | rfl | rfl | rfl : N = 2 ∨ N = 3 ∨ N = 4 ∨ N = 5 ∨ N = 6 ∨ N = 7 ∨ N = 8 := by omega
  all_goals
    simp only [Nat.reduceSub, Nat.reduceMul, Nat.sub_zero, Int.reducePow, Nat.sub_self, Nat.mul_zero, Int.pow_zero, Int.ediv_one] at e0 e1
    omega
theorem bt_encI (v : Int) (i : Nat) (h : i < ilen v) : bt (encI v) (2 + i) = ib v (ilen v) i := by
  rw [encI_eq]
  simp [bt, List.getD, Nat.add_comm 2 i, ibytes, h]
theorem encI_byte (v : Int) : ∀ x ∈ encI v, x < 256 := by
  have := ilen_bd v
  intro x hx
  rw [encI_eq] at hx
  simp only [List.mem_cons, ibytes, List.mem_map] at hx
  rcases hx with rfl | rfl | ⟨j, _, rfl⟩
  · omega
  · omega
  · exact ib_lt _ _ _
theorem encI_length (v : Int) : (encI v).length = 2 + ilen v := by rw [encI_eq]; simp [ibytes_length]; omega
end Go.Proofs.Qxb6001432a
