/-
  THE SEAT's PLAIN MATHEMATICS: bytes as lists of natural numbers, the DER header, the octets of a length. No Go in sight but the cells' name.
-/
import Derived.WalkKit
import Derived.Deep.AppendSrc
namespace Go.Proofs.Qxb6001432a

/-- Bytes as cells. -/
def B (l : List Nat) : List Value := l.map fun (x : Nat) => Value.int .u8 (x : Int)
theorem B_append (a b : List Nat) : B (a ++ b) = B a ++ B b := by simp [B]
theorem B_length (a : List Nat) : (B a).length = a.length := by simp [B]
theorem B_one (l : List Nat) : ∀ u ∈ B l, u.oneCell' = true := by
  intro u hu
  obtain ⟨_, _, rfl⟩ := List.mem_map.1 hu
  rfl
theorem B_get (l : List Nat) (j : Nat) (h : j < l.length) : (B l)[j]? = some (.int .u8 (l.getD j 0 : Nat)) := by
  simp [B, List.getD, h]

/-- A string's bytes. -/
def tagL (s : ByteArray) : List Nat := s.data.toList.map UInt8.toNat
theorem tagL_length (s : ByteArray) : (tagL s).length = s.size := by simp [tagL]
theorem tagL_cells (s : ByteArray) : byteCells s = B (tagL s) := by simp [byteCells, B, tagL]
theorem tagL_get (s : ByteArray) (j : Nat) (h : j < s.size) : (tagL s).getD j 0 = (s[j]'h).toNat := by
  have h' : j < s.data.toList.length := by simpa using h
  simp only [tagL, List.getD, List.getElem?_map, List.getElem?_eq_getElem h', Option.map_some, Option.getD_some]
  rfl

/-- The octets of a number, the greatest first; f: so many at most. -/
def be : Nat → Nat → List Nat
  | 0, _ => []
  | f + 1, n => if n = 0 then [] else be f (n / 256) ++ [n % 256]
theorem be_zero (f : Nat) : be f 0 = [] := by cases f <;> simp [be]
theorem be_step (f n : Nat) (h : 0 < n) : be (f + 1) n = be f (n / 256) ++ [n % 256] := by
  rw [be, if_neg (by omega)]

/-- The length octets of a DER element. -/
def lenL (m : Nat) : List Nat := if m < 128 then [m] else (128 + (be 3 m).length) :: be 3 m
def enc (s : ByteArray) (c : List Nat) : List Nat := tagL s ++ lenL c.length ++ c

theorem be_len (m : Nat) (h0 : 0 < m) (h : m < 16777216) : 1 ≤ (be 3 m).length ∧ (be 3 m).length ≤ 3 := by
  rw [be_step 2 m h0, List.length_append]
  by_cases h1 : m / 256 = 0
  · rw [h1, be_zero]; simp
  · rw [be_step 1 _ (by omega), List.length_append]
    by_cases h2 : m / 256 / 256 = 0
    · rw [h2, be_zero]; simp
    · rw [be_step 0 _ (by omega)]; simp [be]
theorem lenL_len (m : Nat) (h : m < 16777216) : 1 ≤ (lenL m).length ∧ (lenL m).length ≤ 4 := by
  unfold lenL
  split
  · simp
  · have := be_len m (by omega) h
    simp; omega
theorem enc_length (s : ByteArray) (c : List Nat) : (enc s c).length = s.size + (lenL c.length).length + c.length := by
  simp [enc, tagL_length, Nat.add_assoc]

/-! ### Integers: big-endian two's complement in as few octets as hold it -/
def ilen (v : Int) : Nat :=
  if -128 ≤ v ∧ v < 128 then 1 else if -32768 ≤ v ∧ v < 32768 then 2 else if -8388608 ≤ v ∧ v < 8388608 then 3 else if -2147483648 ≤ v ∧ v < 2147483648 then 4
  else if -549755813888 ≤ v ∧ v < 549755813888 then 5 else if -140737488355328 ≤ v ∧ v < 140737488355328 then 6 else if -36028797018963968 ≤ v ∧ v < 36028797018963968 then 7 else 8

theorem ilen_bd (v : Int) : 1 ≤ ilen v ∧ ilen v ≤ 8 := by unfold ilen; (repeat' split) <;> omega
theorem ilen_1 (v : Int) : 1 < ilen v ↔ ¬ (-128 ≤ v ∧ v < 128) := by unfold ilen; (repeat' split) <;> omega
theorem ilen_2 (v : Int) (h : 2 ≤ ilen v) : 2 < ilen v ↔ ¬ (-32768 ≤ v ∧ v < 32768) := by revert h; unfold ilen; (repeat' split) <;> omega
theorem ilen_3 (v : Int) (h : 3 ≤ ilen v) : 3 < ilen v ↔ ¬ (-8388608 ≤ v ∧ v < 8388608) := by revert h; unfold ilen; (repeat' split) <;> omega
theorem ilen_4 (v : Int) (h : 4 ≤ ilen v) : 4 < ilen v ↔ ¬ (-2147483648 ≤ v ∧ v < 2147483648) := by revert h; unfold ilen; (repeat' split) <;> omega
theorem ilen_5 (v : Int) (h : 5 ≤ ilen v) : 5 < ilen v ↔ ¬ (-549755813888 ≤ v ∧ v < 549755813888) := by revert h; unfold ilen; (repeat' split) <;> omega
theorem ilen_6 (v : Int) (h : 6 ≤ ilen v) : 6 < ilen v ↔ ¬ (-140737488355328 ≤ v ∧ v < 140737488355328) := by revert h; unfold ilen; (repeat' split) <;> omega
theorem ilen_7 (v : Int) (h : 7 ≤ ilen v) : 7 < ilen v ↔ ¬ (-36028797018963968 ≤ v ∧ v < 36028797018963968) := by revert h; unfold ilen; (repeat' split) <;> omega

/-- Octet i of n. -/
def ib (v : Int) (n i : Nat) : Nat := (v / 2 ^ (8 * (n - 1 - i)) % 256).toNat
theorem ib_lt (v : Int) (n i : Nat) : ib v n i < 256 := by unfold ib; omega
theorem ib_cast (v : Int) (n i : Nat) : ((ib v n i : Nat) : Int) = v / 2 ^ (8 * (n - 1 - i)) % 256 := by unfold ib; omega
/-- The first i octets laid, the rest zero. -/
def cont (v : Int) (n i : Nat) : List Nat := (List.range n).map fun j => if j < i then ib v n j else 0
def ibytes (v : Int) : List Nat := (List.range (ilen v)).map (ib v (ilen v))
theorem cont_length (v : Int) (n i : Nat) : (cont v n i).length = n := by simp [cont]
theorem ibytes_length (v : Int) : (ibytes v).length = ilen v := by simp [ibytes]
theorem cont_zero (v : Int) (n : Nat) : B (cont v n 0) = List.replicate n (.int .u8 0) := by
  apply List.ext_getElem?
  intro j
  by_cases h : j < n <;> simp [B, cont, h]
theorem cont_step (v : Int) (n i : Nat) : (B (cont v n i)).set i (.int .u8 (ib v n i : Nat)) = B (cont v n (i + 1)) := by
  apply List.ext_getElem?
  intro j
  by_cases hj : j < n
  · by_cases e : i = j
    · subst e; simp [B, cont, hj]
    · simp only [B, cont, List.getElem?_set, e, if_false, List.getElem?_map, List.getElem?_range hj, Option.map_some]
      by_cases hl : j < i
      · simp [hl, show j < i + 1 by omega]
      · simp [hl, show ¬ j < i + 1 by omega]
  · rw [List.getElem?_eq_none (by simp [B, cont]; omega), List.getElem?_eq_none (by simp [B, cont]; omega)]
theorem cont_end (v : Int) : cont v (ilen v) (ilen v) = ibytes v := by
  unfold cont ibytes
  apply List.map_congr_left
  intro j hj
  rw [if_pos (by simpa using hj)]
def two : ByteArray := { data := #[2] }
def encI (v : Int) : List Nat := enc two (ibytes v)
theorem tagL_two : tagL two = [2] := rfl
theorem encI_eq (v : Int) : encI v = 2 :: ilen v :: ibytes v := by
  have := ilen_bd v
  simp [encI, enc, tagL_two, lenL, ibytes_length, show ilen v < 128 by omega]
end Go.Proofs.Qxb6001432a
