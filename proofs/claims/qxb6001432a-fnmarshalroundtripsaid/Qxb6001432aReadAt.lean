/-
  zzElem AT AN ENCODED ELEMENT.
-/
import Derived.Test.Qxb6001432aReadElem
namespace Go.Proofs.Qxb6001432a
open Go.RowKit

/-- How long the identifier and length octets are. -/
def hd (tag : ByteArray) (m : Nat) : Nat := tag.size + (lenL m).length
theorem enc_hd (tag : ByteArray) (c : List Nat) : (enc tag c).length = hd tag c.length + c.length := enc_length tag c

/-- THE READER AT AN ELEMENT. -/
theorem elem_at (w : World) (g n cap : Nat) (pre c post : List Nat) (tag : ByteArray) (hb : Buf w g n (pre ++ enc tag c ++ post)) (pos' lim' : Int) (hp : pos' = (pre.length : Int)) (limit : Nat) (hl : lim' = (limit : Int))
    (hlim : pre.length + (enc tag c).length ≤ limit) (hn1 : limit ≤ n) (hn : n ≤ 1073741824) (hc : c.length < 16777216) :
    Calls Try.prog 13 #[.slice (some ⟨g, 0, none⟩) n cap, .int .i64 pos', .int .i64 lim', .string tag] w fun r w' =>
      r = .returned (.tuple #[.int .i64 (pre.length + hd tag c.length : Nat), .int .i64 (pre.length + (enc tag c).length : Nat), .bool true]) ∧ ∃ k, w' = w.drewN k := by
  subst hp; subst hl
  have at_ : ∀ j, j < (tagL tag ++ lenL c.length).length → bt (pre ++ enc tag c ++ post) (pre.length + j) = bt (tagL tag ++ lenL c.length) j := by
    intro j hj
    rw [List.append_assoc, bt_right _ _ _ (by omega), enc, List.append_assoc, bt_left _ _ _ (by omega)]
    congr 1
    omega
  have hll : (tagL tag ++ lenL c.length).length = tag.size + (lenL c.length).length := by rw [List.length_append, tagL_length]
  have htag : ∀ j (h : j < tag.size), bt (pre ++ enc tag c ++ post) (pre.length + j) = (tag[j]'h).toNat := by
    intro j h
    rw [at_ j (by omega), bt_left _ _ _ (by rw [tagL_length]; exact h)]
    exact tagL_get tag j h
  have hlenb : ∀ j, j < (lenL c.length).length → bt (pre ++ enc tag c ++ post) (pre.length + tag.size + j) = bt (lenL c.length) j := by
    intro j hj
    rw [show pre.length + tag.size + j = pre.length + (tag.size + j) by omega, at_ _ (by omega), bt_right _ _ _ (by rw [tagL_length]; omega), tagL_length]
    congr 1
    omega
  rw [enc_hd] at hlim ⊢
  unfold hd at hlim ⊢
  by_cases h : c.length < 128
  · have e1 : lenL c.length = [c.length] := by simp [lenL, h]
    rw [e1] at hlim hlenb ⊢
    have := elem_short w g n cap _ hb pre.length limit tag c.length htag h (by have := hlenb 0 (by simp); simpa [bt] using this) (by simp at hlim; omega) hn1 hn
    simpa [Nat.add_assoc] using this
  · have e1 : lenL c.length = (128 + (be 3 c.length).length) :: be 3 c.length := by simp [lenL, h]
    rw [e1] at hlim hlenb ⊢
    have := elem_long w g n cap _ hb pre.length limit tag c.length htag (by omega) hc (by have := hlenb 0 (by simp); simpa [bt] using this) (fun j hj => by
      have := hlenb (j + 1) (by simp; omega)
      rw [show pre.length + tag.size + 1 + j = pre.length + tag.size + (j + 1) by omega, this]
      simp [bt]) (by simp at hlim; omega) hn1 hn
    rw [List.length_cons, show pre.length + (tag.size + ((be 3 c.length).length + 1)) = pre.length + tag.size + 1 + (be 3 c.length).length by omega, show pre.length + (tag.size + ((be 3 c.length).length + 1) + c.length) = pre.length + tag.size + 1 + (be 3 c.length).length + c.length by omega]
    exact this
/-- .. and its contents. -/
theorem bt_contents (pre c post : List Nat) (tag : ByteArray) (j : Nat) (hj : j < c.length) : bt (pre ++ enc tag c ++ post) (pre.length + hd tag c.length + j) = bt c j := by
  rw [List.append_assoc, bt_right _ _ _ (by omega), enc, List.append_assoc, bt_right _ _ _ (by rw [List.length_append, tagL_length]; unfold hd; omega), bt_left _ _ _ (by rw [List.length_append, tagL_length]; unfold hd; omega)]
  congr 1
  rw [List.length_append, tagL_length]; unfold hd; omega
theorem tagL_byte (s : ByteArray) : ∀ x ∈ tagL s, x < 256 := by
  intro x hx
  obtain ⟨y, _, rfl⟩ := List.mem_map.1 hx
  exact y.toNat_lt
theorem enc_byte (tag : ByteArray) (c : List Nat) (h : c.length < 16777216) (hc : ∀ x ∈ c, x < 256) : ∀ x ∈ enc tag c, x < 256 := by
  intro x hx
  simp only [enc, List.mem_append] at hx
  rcases hx with (hx | hx) | hx
  · exact tagL_byte tag x hx
  · exact lenL_byte _ h x hx
  · exact hc x hx
end Go.Proofs.Qxb6001432a
