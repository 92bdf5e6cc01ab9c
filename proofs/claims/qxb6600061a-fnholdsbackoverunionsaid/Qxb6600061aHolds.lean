/-
  THE WALKS OF (heldSpan).holdsBack (43) AND ZZHoldsBack (34).
-/
import Derived.Test.Qxb6600061aBuild
import Derived.Laws.IdiomRangeMap
namespace Go.Proofs.Qxb6600061a
open Go.RowKit Go.Maps

theorem zero4 (w : World) : (zeroValue 4).run Try.prog w = .ok (.bool false) w := by kernel_rfl

theorem bool_inv {v : Value} {z : DataW Unit × List MemPlace} (h : plainElem Try.prog 4 v = some z) : ∃ x, v = .bool x ∧ z = (bT x, []) := by
  unfold plainElem at h
  rw [Try.underlying4] at h
  cases v <;> simp at h
  exact ⟨_, rfl, h.symm⟩

/-- 'held[key]' at the operation. -/
theorem wpList_look (w : World) {ops : Array Oper} {rest : List Oper} {o : Oper} {a : Act} {Q : Exit → Act → World → Prop} (hg : o.guard = none) (m x : Operand) (hop : o.op = Op.lookup 33 m x false)
    (b n : Nat) (D : DataW Unit) (hm : a.eval m = .map (some b)) (hown : IsM w b n D) (s : ByteArray) (hx : a.eval x = .string s) (hs : s.size ≤ maxLen)
    (hK : ∀ c : Bool, D.atKey (kl s) (bT false) = bT c → wpList Try.prog ops Q rest (a.put o.dst (.bool c)) w) : wpList Try.prog ops Q (o :: rest) a w := by
  refine wpList_plain hg fun K' hK' => ?_
  obtain ⟨v, ps, hrun, hv⟩ := World.ownsMap.lookup hown law Try.underlying33 (zero4 w) (plainElem_bool Try.underlying4 false) (key_of s hs)
  obtain ⟨c, rfl, hc⟩ := bool_inv hv
  simp only [Prod.mk.injEq] at hc
  unfold Oper.wp
  simp [execOp, hop, hm, hx, hrun, Result.andThen]
  exact hK' _ _ (hK c hc.1)

/-- The step of a range over such a map. -/
theorem wpList_next_s (w : World) {ops : Array Oper} {rest : List Oper} {o : Oper} {a : Act} {Q : Exit → Act → World → Prop} (hg : o.guard = none) (it : Operand) (hop : o.op = Op.next it false)
    (b r n : Nat) (D : DataW Unit) (left : Lit → Bool) (cnt : Nat) (hit : a.eval it = .pointer (some ⟨r, 0, none⟩)) (h : w.ranges Try.prog 9 (plainElem Try.prog 4) b r n D left cnt)
    (hDone : (∀ k, left k = false) → wpList Try.prog ops Q rest (a.put o.dst (.tuple #[.bool false])) w)
    (hMore : ∀ (s : ByteArray) (v : Value) (w' : World) (cnt' : Nat), s.size ≤ maxLen → Maps.has D (kl s) = true → w'.ranges Try.prog 9 (plainElem Try.prog 4) b r n D (fun z => left z && !z.sameKey (kl s)) cnt' → cnt' < cnt →
      w.grownBy w' (some r) → (Instr.entry (.pointer (some ⟨r, 0, none⟩))).run Try.prog w' = .ok (.tuple #[.string s, v]) w' → wpList Try.prog ops Q rest (a.put o.dst (.tuple #[.bool true, .string s, v])) w') :
    wpList Try.prog ops Q (o :: rest) a w :=
  wpList_next_ranges w hg it hop 9 law (plainElem Try.prog 4) Value.string (fun v : Value => v) (fun key k hk => by
      obtain ⟨s, rfl, _⟩ := WideMaps.string_of_keyOf Try.underlying9 hk
      exact ⟨s, rfl⟩) (fun v _ _ => ⟨v, rfl⟩) b r n D left cnt hit h (fun _ hl => hDone hl) (fun s v k y w' cnt' hkey hlk hv hat hrg hlt hgr hsz hen => by
    obtain ⟨s', es', ek, hsz⟩ := WideMaps.string_of_keyOf Try.underlying9 hkey
    cases es'
    have hk : k = kl s := ek
    subst hk
    exact hMore s v w' cnt' hsz (Maps.has_true_of_atKey hat) hrg hlt hgr hen)

set_option maxRecDepth 100000 in
theorem hb_any (w : World) (b n : Nat) (Dk : DataW Unit) (ok : IsM w b n Dk) (bh nh : Nat) (Dh : DataW Unit) (oh : IsM w bh nh Dh) :
    Calls Try.prog 43 #[.agg #[.int .i64 0, .int .i64 0, .map (some b), .int .i64 0, .slice none 0 0], .map (some bh)] w fun e w' => ∃ r, e = .returned (.bool r) ∧ (r = true ↔ HB Dk Dh) ∧ w.grownBy w' none := by
  go_enter Try.func43, Try.ntmps43
  go_wp2_with (at_range; go_loud (refine wpList_range_own _ rfl _ 33 rfl 9 4 law Try.underlying33 (plainElem Try.prog 4) b n Dk rfl (World.ownsMap.alloc ok _) ?_))
  intro w0 hrg0 hg0 hs0
  go_wp2_with fail
  have gw0 : w.grownBy w0 none := grownBy_trans (World.grownBy_alloc w _ none) hg0 (.inl rfl)
  have oh0 : Hid (IsM w bh nh Dh) := oh
  have bhl := World.ownsMap.lt oh
  clear hg0 hs0 ok oh
  go_loopw [5] (fun _ wr => ∃ left cnt, wr.ranges Try.prog 9 (plainElem Try.prog 4) b (w.heap.size + 1) n Dk left cnt ∧ (∀ k, Maps.has Dk k = true → left k = false → Dh.atKey k (bT false) = bT true) ∧ w.grownBy wr none) (fun _ wr => wr.rangeLeft b (w.heap.size + 1))
  case atStart => exact ⟨_, _, hrg0, (fun k h1 h2 => by rw [h1] at h2; cases h2), gw0⟩
  case round =>
    obtain ⟨left, cnt, hrg, hleft, hgr⟩ := hrel
    have HL := Hid.intro hleft
    have HR := Hid.intro hrg
    clear hleft
    go_wp2_with (at_next; go_loud (refine wpList_next_s _ rfl _ rfl b (w.heap.size + 1) n Dk left cnt rfl hrg ?_ ?_))
    · intro hl0
      have hyes : HB Dk Dh := fun k hk => HL.out k hk (hl0 k)
      have HY := Hid.intro hyes
      clear hyes hl0 hrg
      go_wp2
      go_ret
      exact ⟨true, rfl, ⟨fun _ => HY.out, fun _ => rfl⟩, hgr⟩
    · intro s v w1 cnt1 hsz hasK hrg1 hlt hg1 hen
      have gw1 : w.grownBy w1 none := grownBy_trans hgr hg1 (.inr fun q hq => by cases hq; omega)
      have oh1 : IsM w1 bh nh Dh := IsM.kept0 oh0.out gw1
      have HAS := Hid.intro hasK
      have HLT := Hid.intro hlt
      have HRG1 := Hid.intro hrg1
      clear hasK hlt hrg hrg1
      go_wp2_with (at_lookup; go_loud (refine wpList_look _ rfl _ _ rfl bh nh Dh rfl oh1 s rfl hsz ?_))
      refine ⟨fun hc2 => ?_, fun hc2 => ?_⟩
      · have HN : Hid (¬ HB Dk Dh) := fun h => by have := h (kl s) HAS.out; rw [hc2] at this; cases this
        clear hc2
        go_wp2
        go_ret
        exact ⟨false, rfl, ⟨(fun h => by cases h), fun h => absurd h HN.out⟩, gw1⟩
      · have HT := Hid.intro hc2
        clear hc2
        go_wp2
        go_roundw
        case rel =>
          refine ⟨_, _, HRG1.out, fun k h1 h2 => ?_, gw1⟩
          by_cases e : k = kl s
          · rw [e]; exact HT.out
          · refine HL.out k h1 ?_
            rw [Maps.sameKey_ne e] at h2
            simpa using h2
        case measure =>
          rw [HRG1.out.left_eq, HR.out.left_eq]
          exact HLT.out

set_option maxRecDepth 100000 in
theorem hb_nil (w : World) (bh : Nat) :
    Calls Try.prog 43 #[.agg #[.int .i64 0, .int .i64 0, .map none, .int .i64 0, .slice none 0 0], .map (some bh)] w fun e w' => e = .returned (.bool true) ∧ w.grownBy w' none := by
  have h1 := fun wx => run_range_nilMap (P := Try.prog) wx 33 9 4 Try.underlying33
  have h2 := fun ty => run_next_nilMap (P := Try.prog) (w.alloc (.cells #[.int .i64 0, .int .i64 0, .map none, .int .i64 0, .slice none 0 0] 64)) ty 0 0 #[]
  rw [show (w.alloc (.cells #[.int .i64 0, .int .i64 0, .map none, .int .i64 0, .slice none 0 0] 64)).heap.size = w.heap.size + 1 by simp] at h2
  go_enter Try.func43, Try.ntmps43
  go_wp2
  refine wp_loop_rounds 1 ?_
  rw [rounds_succ]
  go_wp2
  go_ret
  exact ⟨rfl, grownBy_trans (World.grownBy_alloc _ _ none) (World.grownBy_alloc _ _ none) (.inl rfl)⟩

set_option maxRecDepth 100000 in
theorem zh_any (w : World) (b n : Nat) (Dk : DataW Unit) (ok : IsM w b n Dk) (bh nh : Nat) (Dh : DataW Unit) (oh : IsM w bh nh Dh) :
    Calls Try.prog 34 #[.map (some b), .map (some bh)] w fun e w' => ∃ r, e = .returned (.bool r) ∧ (r = true ↔ HB Dk Dh) ∧ w.grownBy w' none := by
  go_enter Try.func34, Try.ntmps34
  go_wp2_with fail
  refine (hb_any w b n Dk ok bh nh Dh oh).mono ?_
  rintro e w' ⟨r, rfl, hr, hg⟩
  have HR := Hid.intro hr
  clear hr
  go_wp2
  go_ret
  exact ⟨r, rfl, HR.out, hg⟩
set_option maxRecDepth 100000 in
theorem zh_nil (w : World) (bh : Nat) : Calls Try.prog 34 #[.map none, .map (some bh)] w fun e w' => e = .returned (.bool true) ∧ w.grownBy w' none := by
  go_enter Try.func34, Try.ntmps34
  go_wp2_with fail
  refine (hb_nil w bh).mono ?_
  rintro e w' ⟨rfl, hg⟩
  go_wp2
  go_ret
  exact ⟨rfl, hg⟩
end Go.Proofs.Qxb6600061a
