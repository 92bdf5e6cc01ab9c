/-
  THE WALKS OF buildTrue (32), valAt (42), buildMap (33).
-/
import Derived.Test.Qxb6600061aMapLaw
import Derived.Test.Qxb6600061aClone
import Derived.Deep.RegionWith
import Derived.BigRegion
namespace Go.Proofs.Qxb6600061a
open Go.RowKit Go.Maps

theorem law : Keyed Try.prog 9 := string_keyed Try.underlying9
/-- Block b is a map of at most n entries that reads as D. -/
def IsM (w : World) (b n : Nat) (D : DataW Unit) : Prop := w.ownsMap Try.prog 9 (plainElem Try.prog 4) b n D
theorem IsM.kept0 {w w' : World} {b n : Nat} {D : DataW Unit} (h : IsM w b n D) (hg : w.grownBy w' none) : IsM w' b n D := World.ownsMap.kept h hg (by simp)
theorem key_of (s : ByteArray) (h : s.size ≤ maxLen) : keyOf Try.prog 9 (.string s) = some (kl s) := Go.WideMaps.keyOf_string_mk Try.underlying9 h

/-- Each string is short enough to be a key. -/
def Short (ss : List ByteArray) : Prop := ∀ j, (ga ByteArray.empty ss j).size ≤ maxLen

set_option maxRecDepth 100000 in
theorem bt_any (w : World) (a : Option Addr) (len cap : Nat) (ss : List ByteArray) (hr : Row Value.string ByteArray.empty w a ss) (hl : ss.length = len) (hlen : len ≤ 1048576) (hs : Short ss) :
    Calls Try.prog 32 #[.slice a len cap] w fun e w' => e = .returned (.map (some w.heap.size)) ∧ IsM w' w.heap.size len (fx (.map []) ss len) ∧ w.grownBy w' none := by
  have hmm := @run_makeMap Try.prog
  have HL : Hid (ss.length = len) := hl
  have HS : Hid (Short ss) := hs
  clear hl hs
  go_enter Try.func32, Try.ntmps32
  go_wp2_with fail
  go_loopw [4] (fun c wr => ∃ i : Nat, i ≤ len ∧ c = .int .i64 i ∧ IsM wr w.heap.size i (fx (.map []) ss i) ∧ w.grownBy wr none) (fun c _ => len - (intOf c).toNat)
  case atStart => exact ⟨0, Nat.zero_le _, rfl, World.ownsMap_made _ _ _ _, World.grownBy_alloc _ _ _⟩
  case round =>
    obtain ⟨i, hi, rfl, hoi, hgi⟩ := hrel
    by_cases hlt : i < len
    · obtain ⟨b, off, hx, hcell⟩ := hr.at (by rw [HL.out]; omega)
      subst hx
      have hx' : wr.cell? ⟨b, off + i, none⟩ = some (.string (ga ByteArray.empty ss i)) := hgi.cell (hcell i (by rw [HL.out]; exact hlt)) (by simp)
      clear hcell
      have hkey := key_of (ga ByteArray.empty ss i) (HS.out i)
      go_wp2_with (at_mapUpdate; go_loud (refine wpList_mapUpdate_own _ rfl _ _ _ 33 rfl 9 4 law Try.underlying33 _ w.heap.size i _ rfl hoi (by unfold maxLen; omega) _ _ _ rfl rfl hkey _ [] (plainElem_bool Try.underlying4 true) ?_))
      intro w1 hown1 hgrow1
      go_wp2
      go_roundw
      case rel => exact ⟨i + 1, by omega, by go_num, hown1, grownBy_trans hgi hgrow1 (.inr fun k hk => by cases hk; exact Nat.le_refl _)⟩
      case measure => simp [intOf]; omega
    · obtain rfl : i = len := by omega
      go_wp2
      go_ret
      exact ⟨rfl, hoi, hgi⟩

set_option maxRecDepth 100000 in
theorem va_any (w : World) (a : Option Addr) (len cap : Nat) (bs : List Bool) (hr : Row Value.bool false w a bs) (hl : bs.length = len) (hlen : len ≤ 1048576) (i : Nat) (hi : i ≤ 1048576) :
    Calls Try.prog 42 #[.slice a len cap, .int .i64 (i : Int)] w fun e w' => e = .returned (.bool (ga false bs i)) ∧ w' = w := by
  by_cases hlt : i < len
  · obtain ⟨b, off, hx, hcell⟩ := hr.at (by omega)
    subst hx
    have hx' := hcell i (by omega)
    have q1 : (i : Int) < (len : Int) := by omega
    clear hcell hl
    go_enter Try.func42, Try.ntmps42
    go_wp2
    go_ret
    exact ⟨rfl, rfl⟩
  · rw [ga_out false bs i (by omega)]
    have q1 : decide ((i : Int) < (len : Int)) = false := by simp; omega
    clear hl
    go_enter Try.func42, Try.ntmps42
    go_wp2
    go_ret
    exact ⟨rfl, rfl⟩

set_option maxRecDepth 100000 in
theorem bm_any (w : World) (a : Option Addr) (len cap : Nat) (ss : List ByteArray) (hr : Row Value.string ByteArray.empty w a ss) (hl : ss.length = len) (hlen : len ≤ 1048576) (hs : Short ss)
    (a2 : Option Addr) (len2 cap2 : Nat) (bs : List Bool) (hr2 : Row Value.bool false w a2 bs) (hl2 : bs.length = len2) (hlen2 : len2 ≤ 1048576) :
    Calls Try.prog 33 #[.slice a len cap, .slice a2 len2 cap2] w fun e w' => e = .returned (.map (some w.heap.size)) ∧ IsM w' w.heap.size len (fm ss bs len) ∧ w.grownBy w' none := by
  have hmm := @run_makeMap Try.prog
  have HL : Hid (ss.length = len) := hl
  have HS : Hid (Short ss) := hs
  clear hl hs
  go_enter Try.func33, Try.ntmps33
  go_wp2_with fail
  go_loopw [6] (fun c wr => ∃ i : Nat, i ≤ len ∧ c = .int .i64 i ∧ IsM wr w.heap.size i (fm ss bs i) ∧ w.grownBy wr none) (fun c _ => len - (intOf c).toNat)
  case atStart => exact ⟨0, Nat.zero_le _, rfl, World.ownsMap_made _ _ _ _, World.grownBy_alloc _ _ _⟩
  case round =>
    obtain ⟨i, hi, rfl, hoi, hgi⟩ := hrel
    by_cases hlt : i < len
    · obtain ⟨b, off, hx, hcell⟩ := hr.at (by rw [HL.out]; omega)
      subst hx
      have hx' : wr.cell? ⟨b, off + i, none⟩ = some (.string (ga ByteArray.empty ss i)) := hgi.cell (hcell i (by rw [HL.out]; exact hlt)) (by simp)
      clear hcell
      have hkey := key_of (ga ByteArray.empty ss i) (HS.out i)
      have q1 : (i : Int) < (len : Int) := by omega
      obtain ⟨w2, hrun, ho2, hg2⟩ := World.ownsMap.update (w := wr.drew) hoi law Try.underlying33 (by unfold maxLen; omega) hkey (plainElem_bool Try.underlying4 (ga false bs i))
      have hva := va_any wr.drew a2 len2 cap2 bs (hr2.grown (grown_drew hgi)) hl2 hlen2 i (by omega)
      have HV := Hid.intro hva
      clear hva
      go_wp2_with fail
      go_region_with (go_at_call 42; refine HV.out.mono ?_; rintro e w' ⟨rfl, rfl⟩)
      all_goals
        go_wp2
        go_roundw
        case rel => exact ⟨i + 1, by omega, by go_num, ho2, grownBy_trans (grown_drew hgi) hg2 (.inr fun k hk => by cases hk; exact Nat.le_refl _)⟩
        case measure => simp [intOf]; omega
    · obtain rfl : i = len := by omega
      go_wp2
      go_ret
      exact ⟨rfl, hoi, hgi⟩
end Go.Proofs.Qxb6600061a
