/-
  THE PLAIN LAW ON MAPS OF STRINGS TO BOOLS: no walk.
-/
import Derived.Test.Qxb6600061aBase
namespace Go.Proofs.Qxb6600061a
open Go.Maps (IsMap)

/-- What a string reads as, as a key. -/
def kl (s : ByteArray) : Lit := .string s.data.toList
def bT (b : Bool) : DataW Unit := .lit (.bool b)
theorem kl_key (s : ByteArray) : WideAt.IsKeyLit (kl s) := trivial

/-- D with 'true' laid at the first i strings of a list. -/
def fx (D : DataW Unit) (ss : List ByteArray) : Nat → DataW Unit
  | 0 => D
  | i + 1 => (fx D ss i).put (kl (ga ByteArray.empty ss i)) (bT true)
/-- A map laid from a list of strings and a list of bools. -/
def fm (ss : List ByteArray) (bs : List Bool) : Nat → DataW Unit
  | 0 => .map []
  | i + 1 => (fm ss bs i).put (kl (ga ByteArray.empty ss i)) (bT (ga false bs i))

theorem fx_isMap {D : DataW Unit} (h : IsMap D) (ss : List ByteArray) : ∀ i, IsMap (fx D ss i)
  | 0 => h
  | i + 1 => (fx_isMap h ss i).put _ _
theorem fm_isMap (ss : List ByteArray) (bs : List Bool) : ∀ i, IsMap (fm ss bs i)
  | 0 => Maps.isMap_empty
  | i + 1 => (fm_isMap ss bs i).put _ _
theorem empty_isMap : IsMap (.map [] : DataW Unit) := Maps.isMap_empty

/-- Every key of Dk is held by Dh. -/
def HB (Dk Dh : DataW Unit) : Prop := ∀ k, Maps.has Dk k = true → Dh.atKey k (bT false) = bT true

theorem fx_true {D : DataW Unit} (h : IsMap D) (ss : List ByteArray) (k : Lit) (hk : D.atKey k (bT false) = bT true) : ∀ i, (fx D ss i).atKey k (bT false) = bT true
  | 0 => hk
  | i + 1 => by
    show ((fx D ss i).put _ _).atKey k _ = _
    by_cases e : k = kl (ga ByteArray.empty ss i)
    · rw [e]; exact Maps.atKey_put_same (fx_isMap h ss i) (kl_key _) _ _
    · rw [Maps.atKey_put_other e]; exact fx_true h ss k hk i
theorem fx_self {D : DataW Unit} (h : IsMap D) (hD : ∀ k, Maps.has D k = true → D.atKey k (bT false) = bT true) (ss : List ByteArray) (k : Lit) : ∀ i, Maps.has (fx D ss i) k = true → (fx D ss i).atKey k (bT false) = bT true
  | 0, hh => hD k hh
  | i + 1, hh => by
    have hh : Maps.has ((fx D ss i).put (kl (ga ByteArray.empty ss i)) (bT true)) k = true := hh
    show ((fx D ss i).put _ _).atKey k _ = _
    by_cases e : k = kl (ga ByteArray.empty ss i)
    · rw [e]; exact Maps.atKey_put_same (fx_isMap h ss i) (kl_key _) _ _
    · rw [Maps.has_put_other e] at hh
      rw [Maps.atKey_put_other e]; exact fx_self h hD ss k i hh
theorem fx_has {D : DataW Unit} (h : IsMap D) (ss : List ByteArray) (k : Lit) : ∀ i, Maps.has (fx D ss i) k = (Maps.has D k || Maps.has (fx (.map []) ss i) k)
  | 0 => by show Maps.has D k = (Maps.has D k || false); simp
  | i + 1 => by
    show Maps.has ((fx D ss i).put _ _) k = (_ || Maps.has ((fx (.map []) ss i).put _ _) k)
    by_cases e : k = kl (ga ByteArray.empty ss i)
    · rw [e, Maps.has_put_same (fx_isMap h ss i) (kl_key _), Maps.has_put_same (fx_isMap empty_isMap ss i) (kl_key _)]; simp
    · rw [Maps.has_put_other e, Maps.has_put_other e]; exact fx_has h ss k i

/-- Holding more keys never lets a held span go. -/
theorem HB_mono {Dk Dh : DataW Unit} (hm : IsMap Dh) (ss : List ByteArray) (i : Nat) (h : HB Dk Dh) : HB Dk (fx Dh ss i) := fun k hk => fx_true hm ss k (h k hk) i
/-- A span's own keys, all held, hold it back. -/
theorem HB_self (ss : List ByteArray) (i : Nat) : HB (fx (.map []) ss i) (fx (.map []) ss i) := fun k hk => fx_self empty_isMap (fun _ h => by cases h) ss k i hk
/-- No keys: held. -/
theorem HB_empty (Dh : DataW Unit) : HB (.map []) Dh := fun _ h => by cases h
/-- A union is held just if both are. -/
theorem HB_union (s1 s2 : List ByteArray) (i j : Nat) (Dh : DataW Unit) : HB (fx (fx (.map []) s1 i) s2 j) Dh ↔ HB (fx (.map []) s1 i) Dh ∧ HB (fx (.map []) s2 j) Dh := by
  constructor
  · intro h
    exact ⟨fun k hk => h k (by rw [fx_has (fx_isMap empty_isMap s1 i), hk]; simp), fun k hk => h k (by rw [fx_has (fx_isMap empty_isMap s1 i), hk]; simp)⟩
  · rintro ⟨h1, h2⟩ k hk
    rw [fx_has (fx_isMap empty_isMap s1 i)] at hk
    rcases Bool.or_eq_true_iff.1 hk with hk | hk
    · exact h1 k hk
    · exact h2 k hk
end Go.Proofs.Qxb6600061a
