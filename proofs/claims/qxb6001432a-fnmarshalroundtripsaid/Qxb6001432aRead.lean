/-
  THE READERS' WALKS: zzMinimalInt (15).
-/
import Derived.Test.Qxb6001432aRows
import Derived.Test.Qxb6001432aPlain2
import Derived.WalkSpells
import Derived.Deep.QuietTactic
import Derived.BigQuiet
namespace Go.Proofs.Qxb6001432a
open Go.RowKit

set_option maxRecDepth 100000 in
theorem min_one (w : World) (v : Value) (s e : Int) (h0 : -1000000000 ≤ s) (h1 : s ≤ 1100000000) (h2 : e ≤ 2000000000) (h3 : -2000000000 ≤ e) (h : e - s ≤ 1) :
    Calls Try.prog 15 #[v, .int .i64 s, .int .i64 e] w fun r w' => r = .returned (.bool true) ∧ w' = w := by
  go_enter Try.func15, Try.ntmps15
  go_wp2
  go_ret
  exact ⟨rfl, rfl⟩

set_option maxRecDepth 100000 in
theorem min_more (w : World) (g n cap : Nat) (l : List Nat) (hb : Buf w g n l) (s e : Nat) (hse : s + 1 < e) (hen : e ≤ n) (hn : n ≤ 1073741824)
    (hm : ¬ (bt l s = 0 ∧ bt l (s + 1) < 128) ∧ ¬ (bt l s = 255 ∧ 128 ≤ bt l (s + 1))) :
    Calls Try.prog 15 #[.slice (some ⟨g, 0, none⟩) n cap, .int .i64 s, .int .i64 e] w fun r w' => r = .returned (.bool true) ∧ w' = w := by
  have c0 := hb.cell s (by omega)
  have c1 := hb.cell (s + 1) (by omega)
  have b0 := hb.lt s
  have b1 := hb.lt (s + 1)
  generalize bt l s = x0 at *
  generalize bt l (s + 1) = x1 at *
  go_enter Try.func15, Try.ntmps15
  go_wp2
  all_goals go_ret
  all_goals first | exact ⟨rfl, rfl⟩ | (exfalso; omega)

/-- Not redundant: minimal. -/
theorem min_any (w : World) (g n cap : Nat) (l : List Nat) (hb : Buf w g n l) (s e : Nat) (s' e' : Int) (hs : s' = (s : Int)) (he : e' = (e : Int)) (hse : s ≤ e) (hen : e ≤ n) (hn : n ≤ 1073741824)
    (hm : s + 1 < e → ¬ (bt l s = 0 ∧ bt l (s + 1) < 128) ∧ ¬ (bt l s = 255 ∧ 128 ≤ bt l (s + 1))) :
    Calls Try.prog 15 #[.slice (some ⟨g, 0, none⟩) n cap, .int .i64 s', .int .i64 e'] w fun r w' => r = .returned (.bool true) ∧ w' = w := by
  subst hs; subst he
  by_cases h : s + 1 < e
  · exact min_more w g n cap l hb s e h hen hn (hm h)
  · exact min_one w _ s e (by omega) (by omega) (by omega) (by omega) (by omega)
end Go.Proofs.Qxb6001432a
