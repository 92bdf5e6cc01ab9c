/-
  THE SEAT's PLAIN MATHEMATICS, more: a length's octets read back.
-/
import Derived.Test.Qxb6001432aPlain3
namespace Go.Proofs.Qxb6001432a

def val (l : List Nat) : Nat := l.foldl (fun a b => a * 256 + b) 0
theorem val_snoc (a : List Nat) (b : Nat) : val (a ++ [b]) = val a * 256 + b := by simp [val]
theorem fold_ge (b : List Nat) : ∀ acc : Nat, acc ≤ b.foldl (fun a b => a * 256 + b) acc := by
  induction b with
  | nil => intro acc; simp
  | cons x b ih => intro acc; rw [List.foldl_cons]; exact Nat.le_trans (by omega) (ih _)
theorem val_le (a b : List Nat) : val a ≤ val (a ++ b) := by
  unfold val
  rw [List.foldl_append]
  exact fold_ge b _
theorem val_be (f : Nat) : ∀ m, m < 256 ^ f → val (be f m) = m := by
  induction f with
  | zero => intro m h; simp at h; subst h; simp [be, val]
  | succ f ih =>
    intro m h
    by_cases h0 : m = 0
    · subst h0; simp [be, val]
    · rw [be_step f m (by omega), val_snoc, ih (m / 256) (by rw [Nat.pow_succ] at h; exact Nat.div_lt_of_lt_mul (by omega))]
      omega
theorem be_ne (f : Nat) (m : Nat) (h : 0 < m) (hm : m < 256 ^ f) : be f m ≠ [] := by
  intro e
  have := val_be f m hm
  rw [e] at this
  simp [val] at this
  omega
theorem be_head (f : Nat) : ∀ m, 0 < m → m < 256 ^ f → bt (be f m) 0 ≠ 0 := by
  induction f with
  | zero => intro m h0 h; simp at h; omega
  | succ f ih =>
    intro m h0 h
    have hd : m / 256 < 256 ^ f := by rw [Nat.pow_succ] at h; exact Nat.div_lt_of_lt_mul (by omega)
    rw [be_step f m h0]
    by_cases h1 : m / 256 = 0
    · rw [h1, be_zero]
      simp [bt]
      omega
    · have hne := be_ne f (m / 256) (by omega) hd
      rw [bt_left _ _ _ (List.length_pos_iff.2 hne)]
      exact ih _ (by omega) hd
theorem be_byte (f : Nat) : ∀ m, ∀ x ∈ be f m, x < 256 := by
  induction f with
  | zero => intro m x hx; simp [be] at hx
  | succ f ih =>
    intro m x hx
    by_cases h0 : m = 0
    · subst h0; simp [be] at hx
    · rw [be_step f m (by omega)] at hx
      simp at hx
      rcases hx with hx | rfl
      · exact ih _ x hx
      · omega
/-- What the first i octets of a length say. -/
def vl (m i : Nat) : Nat := val ((be 3 m).take i)
theorem vl_zero (m : Nat) : vl m 0 = 0 := rfl
theorem vl_end (m : Nat) (h : m < 16777216) : vl m (be 3 m).length = m := by
  unfold vl
  rw [List.take_length]
  exact val_be 3 m (by simpa using h)
theorem vl_step (m i : Nat) (h : i < (be 3 m).length) : vl m i * 256 + bt (be 3 m) i = vl m (i + 1) := by
  unfold vl
  rw [List.take_succ_eq_append_getElem h, val_snoc]
  simp [bt, List.getD, h]
theorem vl_le (m i : Nat) (h : m < 16777216) : vl m i ≤ m := by
  have := val_le ((be 3 m).take i) ((be 3 m).drop i)
  rw [List.take_append_drop, val_be 3 m (by simpa using h)] at this
  exact this
theorem lenL_byte (m : Nat) (h : m < 16777216) : ∀ x ∈ lenL m, x < 256 := by
  intro x hx
  unfold lenL at hx
  split at hx
  · simp at hx; omega
  · have := be_len m (by omega) h
    simp at hx
    rcases hx with rfl | hx
    · omega
    · exact be_byte 3 m x hx
end Go.Proofs.Qxb6001432a
