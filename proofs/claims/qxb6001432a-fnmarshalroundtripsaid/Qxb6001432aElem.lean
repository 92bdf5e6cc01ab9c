/-
  THE WALK OF appendElement (function 25): whatever b is (nil, or a row of the call's own), it comes back with the element's octets behind it.
-/
import Derived.Test.Qxb6001432aRows
import Derived.Test.Qxb6001432aApp
import Derived.Test.Qxb6001432aPlain
import Derived.Laws.BitsLemmas
import Derived.WalkSpells
namespace Go.Proofs.Qxb6001432a
open Go.RowKit

theorem info5 : (Try.prog.info? 5).map (fun i => (i.zero, i.size, i.bytes)) = some (some (.int .u8 0), 1, 1) := by kernel_rfl

/-- ONE append MORE. -/
theorem ap_more (w : World) {ops : Array Oper} {rest : List Oper} {o : Oper} {a : Act} {Q : Exit → Act → World → Prop} (hgd : o.guard = none) (s x : Operand) (tx : TypeId)
    (ho : o.op = .call { callee := .builtin .append, args := #[s, x], argTypes := #[22, tx] })
    {base : Nat} {W : World} {v : Value} {n : Nat} {l : List Nat} (hW : W.ownsRow base 5 1 v n (B l)) (hb : base ≤ W.heap.size) {v1 : Value} {m1 : Nat} {ys1 : List Nat} (h : App base 5 1 W v n (B l) w v1 m1 (B ys1))
    (hv : a.eval s = v1) (xv : Value) (m2 : Nat) (ys2 : List Nat) (hx : a.eval x = xv) (hs : Src Try.prog 1 tx xv m2 (B ys2) w) (hbd : n + m1 + m2 ≤ 140737488355328)
    (hK : ∀ v' w', App base 5 1 W v n (B l) w' v' (m1 + m2) (B (ys1 ++ ys2)) → w.grownBy w' v1.ownBlock → wpList Try.prog ops Q rest (a.put o.dst v') w') : wpList Try.prog ops Q (o :: rest) a w := by
  obtain ⟨i0, hi, hz0, hz1, hz2⟩ := info_parts info5
  refine wpList_append_app w hgd s x 22 tx ho base 5 i0 (.int .u8 0) 1 1 Try.underlying22 hi hz0 hz1 hz2 rfl v1 (n + m1) (B l ++ B ys1) hv h.own xv m2 (B ys2) hx hs (by unfold maxLen; omega) (by omega) (Nat.le_trans hb h.grown.size) ?_
  intro v' w' h'
  exact hK v' w' ((App.trans hW h h').cast rfl (B_append _ _).symm) h'.grown

/-- A row from w1's end on is none of w1's. -/
theorem blk_ne {w1 wr : World} {b : Nat} {e : TypeId} {z : Nat} {v1 : Value} {n : Nat} {xs : List Value} {e' : TypeId} {z' : Nat} {o : Value} {m : Nat} {ys : List Value}
    (h1 : w1.ownsRow b e z v1 n xs) (h2 : wr.ownsRow w1.heap.size e' z' o m ys) : o.ownBlock = none ∨ o.ownBlock ≠ v1.ownBlock := by
  cases ho : o.ownBlock with
  | none => exact .inl rfl
  | some g =>
    right
    intro hc
    have l1 := (h2.lt g ho).1
    have l2 := (h1.lt g hc.symm).2
    omega

theorem or128 (y : Nat) (h : y < 64) : bits .or .u8 128 (y : Int) = ((128 + y : Nat) : Int) := by
  have := u8_or128 (y := (y : Int)) (by omega) (by omega)
  rw [this]; omega

theorem src_byte (w : World) (k : Nat) : Src Try.prog 1 22 (.slice (some ⟨w.heap.size, 0, none⟩) 1 1) 1 (B [k]) (w.alloc (.cells #[.int .u8 (k : Int)] 5)) :=
  Src.ofSlice _ Try.underlying22 ⟨w.heap.size, 0, none⟩ 1 1 (B [k]) rfl (cell_one_new _ _ _) (B_one _)

set_option maxRecDepth 100000 in
theorem ae_short (w : World) (base : Nat) (v : Value) (n : Nat) (l : List Nat) (hown : w.ownsRow base 5 1 v n (B l)) (tag : ByteArray) (b2 : Nat) (a : Option Addr) (cp : Nat) (c : List Nat)
    (hu : w.ownsRow b2 5 1 (.slice a c.length cp) c.length (B c)) (hne : (Value.slice a c.length cp).ownBlock = none ∨ (Value.slice a c.length cp).ownBlock ≠ v.ownBlock) (hbase : base ≤ w.heap.size)
    (hm : c.length < 128) (ht : tag.size ≤ 1048576) (hn : n ≤ 1073741824) :
    Calls Try.prog 25 #[v, .string tag, .slice a c.length cp] w fun e w' => ∃ v', e = .returned v' ∧ App base 5 1 w v n (B l) w' v' (enc tag c).length (B (enc tag c)) := by
  have hm' : ((c.length : Nat) : Int) < 128 := by omega
  have hs1 : Src Try.prog 1 9 (.string tag) tag.size (B (tagL tag)) w := by rw [← tagL_cells]; exact Src.ofString _ Try.underlying9 tag
  go_enter Try.func25, Try.ntmps25
  go_wp2_with (at_builtin; refine ap_more _ rfl (.tmp 9) (.tmp 10) 9 rfl hown hbase (ys1 := []) (App.refl hown) rfl (.string tag) tag.size (tagL tag) rfl hs1 (by omega) ?_)
  intro v1 w1 h1 _
  go_wp2_with (at_builtin; go_loud (refine ap_more _ rfl (.tmp 16) (.tmp 19) 22 rfl hown hbase (h1.alloc _) rfl _ 1 [c.length] rfl (src_byte w1 c.length) (by omega) ?_))
  intro v2 w2 h2 hg2
  go_wp2_with (at_builtin; go_loud (refine ap_more _ rfl (.tmp 40) (.tmp 41) 22 rfl hown hbase h2 rfl _ c.length c rfl (Src.ofOwn _ Try.underlying22 (h2.other hu hne) (B_one _)) (by omega) ?_))
  intro v3 w3 h3 _
  go_wp2
  go_ret
  exact ⟨v3, rfl, h3.cast (by rw [enc_length]; simp [lenL, hm]) (by simp [enc, lenL, hm])⟩

/-- What the loop over the length's octets does in one round. -/
theorem oct_round {k f : Nat} {ys : List Nat} {M : Nat} (hM : be 3 M = be f k ++ ys) (hk : k < 256 ^ f) (hpos : 0 < k)
    : ∃ f', f = f' + 1 ∧ be 3 M = be f' (k / 256) ++ ([k % 256] ++ ys) ∧ k / 256 < 256 ^ f' := by
  match f, hk with
  | 0, h => simp at h; omega
  | f' + 1, h =>
    refine ⟨f', rfl, ?_, ?_⟩
    · rw [hM, be_step f' k hpos, List.append_assoc]
    · rw [Nat.pow_succ] at h
      exact Nat.div_lt_of_lt_mul (by omega)

set_option maxRecDepth 100000 in
theorem ae_long (w : World) (base : Nat) (v : Value) (n : Nat) (l : List Nat) (hown : w.ownsRow base 5 1 v n (B l)) (tag : ByteArray) (b2 : Nat) (a : Option Addr) (cp : Nat) (c : List Nat)
    (hu : w.ownsRow b2 5 1 (.slice a c.length cp) c.length (B c)) (hne : (Value.slice a c.length cp).ownBlock = none ∨ (Value.slice a c.length cp).ownBlock ≠ v.ownBlock) (hbase : base ≤ w.heap.size)
    (hm : 128 ≤ c.length) (hm2 : c.length < 16777216) (ht : tag.size ≤ 1048576) (hn : n ≤ 1073741824) :
    Calls Try.prog 25 #[v, .string tag, .slice a c.length cp] w fun e w' => ∃ v', e = .returned v' ∧ App base 5 1 w v n (B l) w' v' (enc tag c).length (B (enc tag c)) := by
  have hm' : ¬ ((c.length : Nat) : Int) < 128 := by omega
  have hs1 : Src Try.prog 1 9 (.string tag) tag.size (B (tagL tag)) w := by rw [← tagL_cells]; exact Src.ofString _ Try.underlying9 tag
  obtain ⟨i0, hi, hz0, hz1, hz2⟩ := info_parts info5
  go_enter Try.func25, Try.ntmps25
  go_wp2_with (at_builtin; refine ap_more _ rfl (.tmp 9) (.tmp 10) 9 rfl hown hbase (ys1 := []) (App.refl hown) rfl (.string tag) tag.size (tagL tag) rfl hs1 (by omega) ?_)
  intro v1 w1 h1 _
  go_wp2_with fail
  go_loopw [7, 8] (fun nv o wr => ∃ (k f : Nat) (ys : List Nat), nv = .int .i64 k ∧ k ≤ c.length ∧ wr.ownsRow w1.heap.size 5 1 o ys.length (B ys) ∧ be 3 c.length = be f k ++ ys ∧ k < 256 ^ f ∧ ys.length + f ≤ 3 ∧ w1.grownBy wr none)
    (fun nv _ _ => (intOf nv).toNat)
  case atStart => exact ⟨c.length, 3, [], rfl, Nat.le_refl _, World.ownsRow_nil _ _ _ _, by simp, by omega, by simp, World.grownBy.refl _ _⟩
  case round =>
    obtain ⟨k, f, ys, rfl, hk, hoy, hbe, hkf, hy3, hgr⟩ := hrel
    have HB : Hid (be 3 c.length = be f k ++ ys) := hbe
    clear hbe
    by_cases hpos : 0 < k
    · obtain ⟨f', hf, hbe', hk'⟩ := oct_round HB.out hkf hpos
      have HB' : Hid (be 3 c.length = be f' (k / 256) ++ ([k % 256] ++ ys)) := hbe'
      have HF : Hid (f = f' + 1) := hf
      have hy4 : ys.length + f' + 1 ≤ 3 := by omega
      clear hbe' hf HB hkf
      have e8 : IntKind.u8.wrap (k : Int) = ((k % 256 : Nat) : Int) := by rw [IntKind.wrap_u8]; omega
      have hlit := World.ownsRow_lit (base := w1.heap.size) (e := 5) (size := 1) wr #[.int .u8 ((k % 256 : Nat) : Int)] 1 hgr.size (by unfold maxLen; omega) rfl
      have hpos' : (0 : Int) < (k : Int) := by omega
      go_wp2_with (at_builtin; go_loud (refine wpList_append_app _ rfl (.tmp 27) (.tmp 28) 22 22 rfl w1.heap.size 5 i0 (.int .u8 0) 1 1 Try.underlying22 hi hz0 hz1 hz2 rfl _ 1 (B [k % 256]) rfl hlit u8 ys.length (B ys) rfl (Src.ofOwn _ Try.underlying22 (hoy.alloc _) (B_one _)) (by unfold maxLen; omega) (by omega) (by have := hgr.size; simp; omega) ?_))
      intro o2 w2 h2
      go_wp2
      go_roundw
      case rel => exact ⟨k / 256, f', [k % 256] ++ ys, by go_num, by omega, by have := h2.own; rw [← B_append] at this; simpa [Nat.add_comm] using this, HB'.out, hk', by simp; omega, grownBy_trans hgr (grownBy_trans (World.grownBy_alloc wr _ (some wr.heap.size)) h2.grown (.inl rfl)) (.inr fun j hj => by cases hj; exact hgr.size)⟩
      case measure => simp [intOf]; omega
    · obtain rfl : k = 0 := by omega
      have hys : ys = be 3 c.length := by rw [HB.out, be_zero]; rfl
      have HY : Hid (ys = be 3 c.length) := hys
      have hbl := be_len c.length (by omega) hm2
      rw [← hys] at hbl
      clear HB hys hkf
      obtain ⟨ao, co, hov⟩ := ownsRow_shape hoy
      subst hov
      have hor : bits .or .u8 128 (ys.length : Int) = ((128 + ys.length : Nat) : Int) := or128 _ (by omega)
      have hA := h1.more hgr
      go_wp2_with (at_builtin; go_loud (refine ap_more _ rfl (.tmp 30) (.tmp 35) 22 rfl hown hbase (hA.alloc _) rfl _ 1 [128 + ys.length] rfl (src_byte wr (128 + ys.length)) (by omega) ?_))
      intro v2 w2 h2 hg2
      have hoy2 : w2.ownsRow w1.heap.size 5 1 (.slice ao ys.length co) ys.length (B ys) := (hoy.alloc _).kept hg2 (blk_ne h1.own hoy)
      go_wp2_with (at_builtin; go_loud (refine ap_more _ rfl (.tmp 37) (.tmp 38) 22 rfl hown hbase h2 rfl _ ys.length ys rfl (Src.ofOwn _ Try.underlying22 hoy2 (B_one _)) (by omega) ?_))
      intro v3 w3 h3 _
      go_wp2_with (at_builtin; go_loud (refine ap_more _ rfl (.tmp 40) (.tmp 41) 22 rfl hown hbase h3 rfl _ c.length c rfl (Src.ofOwn _ Try.underlying22 (h3.other hu hne) (B_one _)) (by omega) ?_))
      intro v4 w4 h4 _
      go_wp2
      go_ret
      exact ⟨v4, rfl, h4.cast (by rw [enc_length, lenL, if_neg (by omega), List.length_cons, ← HY.out]; omega) (by rw [enc, lenL, if_neg (by omega), ← HY.out]; simp)⟩

/-- appendElement, whatever the length. -/
theorem ae_any (w : World) (base : Nat) (v : Value) (n : Nat) (l : List Nat) (hown : w.ownsRow base 5 1 v n (B l)) (tag : ByteArray) (b2 : Nat) (a : Option Addr) (m cp : Nat) (c : List Nat)
    (hu : w.ownsRow b2 5 1 (.slice a m cp) m (B c)) (hne : (Value.slice a m cp).ownBlock = none ∨ (Value.slice a m cp).ownBlock ≠ v.ownBlock) (hbase : base ≤ w.heap.size)
    (hm2 : m < 16777216) (ht : tag.size ≤ 1048576) (hn : n ≤ 1073741824) :
    Calls Try.prog 25 #[v, .string tag, .slice a m cp] w fun e w' => ∃ v', e = .returned v' ∧ App base 5 1 w v n (B l) w' v' (enc tag c).length (B (enc tag c)) := by
  obtain rfl : c.length = m := by have := hu.1; rw [B_length] at this; omega
  by_cases h : c.length < 128
  · exact ae_short w base v n l hown tag b2 a cp c hu hne hbase h ht hn
  · exact ae_long w base v n l hown tag b2 a cp c hu hne hbase (by omega) hm2 ht hn
end Go.Proofs.Qxb6001432a
