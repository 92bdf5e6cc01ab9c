/-
  THE SEAT's OWN LAW ON append, OVER ANY PROGRAM: 'append(v, x)', v nil or a row of the call's own, x whatever yields cells ('Src').
  BESIDE WHAT THE KIT's LAW SAYS IT TELLS THAT THE OLD VALUE STILL READS AS IT DID ('old'), and where the new one lies ('blk'): so appends can be strung together ('App.trans').
-/
import Derived.Test.Qxb6600061aBase
import Derived.Deep.Upon
namespace Go.Proofs.Qxb6600061a
open Go.RowKit

/-- v' is v with 'ys' (m elements) appended; w' is the world behind it. -/
structure App (base : Nat) (e : TypeId) (size : Nat) (w : World) (v : Value) (n : Nat) (xs : List Value) (w' : World) (v' : Value) (m : Nat) (ys : List Value) : Prop where
  own : w'.ownsRow base e size v' (n + m) (xs ++ ys)
  old : w'.ownsRow base e size v n xs
  grown : w.grownBy w' v.ownBlock
  blk : v'.ownBlock = v.ownBlock ∨ ∀ k, v'.ownBlock = some k → w.heap.size ≤ k

section
variable {base : Nat} {e : TypeId} {size : Nat} {w : World} {v : Value} {n : Nat} {xs : List Value}

theorem App.refl (h : w.ownsRow base e size v n xs) : App base e size w v n xs w v 0 [] :=
  ⟨by simpa using h, h, World.grownBy.refl _ _, .inl rfl⟩

/-- A block laid ahead of the append belongs to it. -/
theorem App.after_alloc {o : Obj} {w' : World} {v' : Value} {m : Nat} {ys : List Value} (h : App base e size (w.alloc o) v n xs w' v' m ys) : App base e size w v n xs w' v' m ys :=
  ⟨h.own, h.old, grownBy_trans (World.grownBy_alloc w o _) h.grown (.inl rfl), h.blk.imp id fun k j hj => by have := k j hj; simp at this; omega⟩

/-- A new block turns nothing of it. -/
theorem App.alloc {w' : World} {v' : Value} {m : Nat} {ys : List Value} (h : App base e size w v n xs w' v' m ys) (o : Obj) : App base e size w v n xs (w'.alloc o) v' m ys :=
  ⟨h.own.alloc o, h.old.alloc o, grownBy_trans h.grown (World.grownBy_alloc w' o v.ownBlock) (.inl rfl), h.blk⟩

theorem App.cast {w' : World} {v' : Value} {m m' : Nat} {ys ys' : List Value} (h : App base e size w v n xs w' v' m ys) (hm : m = m') (hy : ys = ys') : App base e size w v n xs w' v' m' ys' := by
  subst hm; subst hy; exact h

/-- Steps that write no row of the call's (or rows that are new since w) turn nothing of it. -/
theorem App.more {w' w2 : World} {v' : Value} {m : Nat} {ys : List Value} (h : App base e size w v n xs w' v' m ys) (hg : w'.grownBy w2 none) : App base e size w v n xs w2 v' m ys :=
  ⟨h.own.kept hg (by cases v'.ownBlock <;> simp), h.old.kept hg (by cases v.ownBlock <;> simp), grownBy_trans h.grown hg (.inr fun k hk => by cases hk), h.blk⟩

/-- Steps ahead of it that write no row that was there. -/
theorem App.pre {w1 : World} {w' : World} {v' : Value} {m : Nat} {ys : List Value} (hg : w.grownBy w1 none) (h : App base e size w1 v n xs w' v' m ys) : App base e size w v n xs w' v' m ys :=
  ⟨h.own, h.old, ⟨h.grown.os.trans hg.os, h.grown.tape.trans hg.tape, h.grown.output.trans hg.output, Nat.le_trans hg.size h.grown.size,
    fun k hk hne => (h.grown.block k (Nat.lt_of_lt_of_le hk hg.size) hne).trans (hg.block k hk (by simp))⟩, h.blk.imp id fun q j hj => Nat.le_trans hg.size (q j hj)⟩

/-- Strung together.  -/
theorem App.trans {w1 : World} {v1 : Value} {m1 : Nat} {ys1 : List Value} {w2 : World} {v2 : Value} {m2 : Nat} {ys2 : List Value} (hv : w.ownsRow base e size v n xs)
    (h1 : App base e size w v n xs w1 v1 m1 ys1) (h2 : App base e size w1 v1 (n + m1) (xs ++ ys1) w2 v2 m2 ys2) : App base e size w v n xs w2 v2 (m1 + m2) (ys1 ++ ys2) := by
  refine ⟨by simpa [Nat.add_assoc] using h2.own, ?_, grownBy_trans h1.grown h2.grown h1.blk, ?_⟩
  · rcases h1.blk with hb | hb
    · -- one block
      refine ⟨h1.old.1, ?_⟩
      rcases h1.old.2 with hn | ⟨g, cap, cur, rfl, hbg, hg, hnc, hcm, hcs, htake⟩
      · exact .inl hn
      · right
        rcases h1.own.2 with ⟨rfl, _⟩ | ⟨g', cap', cur', hv', _, hg', _, _, hcs', _⟩
        · simp [Value.ownBlock] at hb
        · subst hv'
          simp only [Value.ownBlock, Option.some.injEq] at hb
          subst hb
          rw [hg] at hg'
          simp only [Option.some.injEq, Obj.cells.injEq, and_true] at hg'
          subst hg'
          rcases h2.old.2 with ⟨hq, _⟩ | ⟨g2, cap2, cur2, hv2, hb2, hg2, hn2, hc2, hs2, ht2⟩
          · simp at hq
          · simp only [Value.slice.injEq, Option.some.injEq, Addr.mk.injEq, and_true, true_and] at hv2
            obtain ⟨rfl, rfl⟩ := hv2
            have hcc : cap * size = cap' * size := by rw [← hcs, ← hcs']
            refine ⟨g', cap, cur2, rfl, hb2, hg2, hnc, hcm, by rw [hs2, hcc], ?_⟩
            have hxl := h1.old.1
            have : cur2.toList.take (n * size) = (cur2.toList.take ((n + m1) * size)).take (n * size) := by
              rw [List.take_take, Nat.min_eq_left (Nat.mul_le_mul_right _ (by omega))]
            rw [this, ht2, ← hxl]
            exact List.take_left
    · refine h1.old.kept h2.grown ?_
      cases hvb : v.ownBlock with
      | none => exact .inl rfl
      | some g =>
        right
        intro hc
        have l1 := (hv.lt g hvb).2
        have l2 := hb g hc.symm
        omega
  · rcases h1.blk with hb | hb
    · rcases h2.blk with hb2 | hb2
      · exact .inl (hb2.trans hb)
      · exact .inr fun k hk => Nat.le_trans h1.grown.size (hb2 k hk)
    · rcases h2.blk with hb2 | hb2
      · exact .inr fun k hk => hb k (hb2 ▸ hk)
      · exact .inr fun k hk => Nat.le_trans h1.grown.size (hb2 k hk)

/-- Another row of the call's own stays as it is. -/
theorem App.other {w' : World} {v' : Value} {m : Nat} {ys : List Value} (h : App base e size w v n xs w' v' m ys) {b2 : Nat} {e2 : TypeId} {s2 : Nat} {u : Value} {k : Nat} {us : List Value} (hu : w.ownsRow b2 e2 s2 u k us) (hne : u.ownBlock = none ∨ u.ownBlock ≠ v.ownBlock) : w'.ownsRow b2 e2 s2 u k us :=
  hu.kept h.grown hne
end

section
variable {P : Program} (w : World)

theorem run_append_app (base : Nat) (t tx ty e : TypeId) (i : TypeInfo) (z : Value) (size bytes : Nat) (ht : P.underlying t = some (.slice e)) (hi : P.info? e = some i) (hz : i.zero = some z)
    (hsize : i.size = size) (hby : i.bytes = bytes) (hzs : z.cells.size = size)
    (v : Value) (n : Nat) (xs : List Value) (hown : w.ownsRow base e size v n xs)
    (x : Value) (m : Nat) (news : List Value) (hs : Src P size tx x m news w)
    (h63 : n + m ≤ maxLen) (hbytes : (n + m) * bytes ≤ 140737488355328) (hbase : base ≤ w.heap.size) :
    ∃ v' w', (Builtin.append_ #[t, tx] ty #[v, x]).run P w = .ok v' w' ∧ App base e size w v n xs w' v' m news := by
  subst hsize
  subst hby
  have hl := hs.newsLen
  have hsmall : n + m ≤ 9223372036854775807 := by simp only [maxLen] at h63; omega
  have hlen : (xs ++ news).length = (n + m) * i.size := by rw [List.length_append, hown.1, hl, Nat.add_mul]
  -- the arm that grows
  have grow : ∀ (bs : Option Addr) (sc : Nat), v = .slice bs n sc → sc < n + m →
      (Builtin.firstCells i.size n (.slice bs n sc)).run P w.drew = .ok xs.toArray w.drew →
      ∃ v' w', (Builtin.append_ #[t, tx] ty #[v, x]).run P w = .ok v' w' ∧ App base e i.size w v n xs w' v' m news := by
    rintro bs sc rfl hg hold
    have hrun := run_append_grow_src (P := P) w t tx ty e i z ht hi hz bs n sc xs hold x m news hs hg (by omega) (growslice_fits hg hbytes)
    have hge := grownCap_ge w (n + m) sc e
    have hcm := grownCap_le_maxLen w (n + m) sc e h63
    have hgr : w.grownBy (w.drew.alloc (.cells ((xs ++ news).toArray ++ Builtin.zeroCells z.cells (grownCap w (n + m) sc e - (n + m))) e)) (Value.ownBlock (.slice bs n sc)) :=
      ⟨rfl, rfl, rfl, by simp, fun k hk _ => Below.heap_alloc w.drew _ k hk⟩
    refine ⟨_, _, hrun, ⟨⟨hlen, .inr ⟨w.heap.size, _, _, rfl, hbase, heap_alloc_new w.drew _, hge, hcm, ?_, ?_⟩⟩, ?_, hgr, .inr fun k hk => ?_⟩⟩
    · simp only [Array.size_append, List.size_toArray, size_zeroCells, hzs, hlen, ← Nat.add_mul]
      congr 1
      omega
    · simp only [Array.toList_append]
      rw [← hlen]
      exact List.take_left
    · exact hown.kept (w' := w.drew.alloc _) (row := none) ⟨rfl, rfl, rfl, by simp, fun k hk _ => Below.heap_alloc w.drew _ k hk⟩ (by cases hvb : (Value.slice bs n sc).ownBlock <;> simp)
    · simp [Value.ownBlock] at hk
      omega
  rcases hown.2 with ⟨rfl, rfl⟩ | ⟨g, cap, cur, rfl, hbg, hg, hnc, hcm, hcs, htake⟩
  · have hx : xs = [] := List.eq_nil_of_length_eq_zero (by simpa using hown.1)
    subst hx
    by_cases hm : m = 0
    · subst hm
      have hn : news = [] := List.eq_nil_of_length_eq_zero (by simpa using hl)
      subst hn
      exact ⟨_, _, run_append_nothing (P := P) w t tx ty e i ht hi none 0 0 (Nat.le_refl _) x hs, App.refl hown⟩
    · exact grow none 0 rfl (by omega) (run_firstCells_none w.drew i.size 0 0 0)
  · by_cases hroom : n + m ≤ cap
    · have hfit : n * i.size + news.length ≤ cur.size := by rw [hl, hcs, ← Nat.add_mul]; exact Nat.mul_le_mul_right _ hroom
      have hst := run_storeCells_at P g (n * i.size) e news 0 cur w hg (by simpa using hfit) hs.one
      simp only [Nat.add_zero] at hst
      have hrun : (Builtin.append_ #[t, tx] ty #[.slice (some ⟨g, 0, none⟩) n cap, x]).run P w =
          .ok (.slice (some ⟨g, 0, none⟩) (n + m) cap) (w.setRow g (cur.toList.take (n * i.size) ++ news ++ cur.toList.drop (n * i.size + news.length)).toArray) := by
        rcases hs.kind with ⟨e', hk⟩ | hk <;> simp [Builtin.append_, run_underlying ht, run_underlying hk, sizeOf, typeInfo, hi, hs.len, hroom, hs.cells, Addr.add_lit, hst]
      have hsz : (cur.toList.take (n * i.size) ++ news ++ cur.toList.drop (n * i.size + news.length)).toArray.size = cap * i.size := by
        simp only [List.size_toArray, List.length_append, List.length_take, List.length_drop, Array.length_toList]
        omega
      refine ⟨_, _, hrun, ⟨⟨hlen, .inr ⟨g, cap, _, rfl, hbg, setRow_heap w g cur _ e _ hg, hroom, hcm, hsz, ?_⟩⟩, ⟨hown.1, .inr ⟨g, cap, _, rfl, hbg, setRow_heap w g cur _ e _ hg, hnc, hcm, hsz, ?_⟩⟩,
        ⟨rfl, rfl, rfl, by simp, fun k _ hk => setRow_other w g k _ (fun e => hk (by simp [Value.ownBlock, e]))⟩, .inl rfl⟩⟩
      · rw [htake, ← hlen]
        exact List.take_left
      · rw [htake, ← hown.1]
        show (xs ++ news ++ _).take _ = _
        rw [List.append_assoc]
        exact List.take_left
    · refine grow (some ⟨g, 0, none⟩) cap rfl (by omega) ?_
      exact run_firstCells_some w.drew i.size n ⟨g, 0, none⟩ n cap xs hown.1 (by simpa using hown.cells (g := g) rfl)

/-- .. for the walk. -/
theorem wpList_append_app {ops : Array Oper} {rest : List Oper} {o : Oper} {a : Act} {Q : Exit → Act → World → Prop} (hgd : o.guard = none) (s x : Operand) (t tx : TypeId)
    (ho : o.op = .call { callee := .builtin .append, args := #[s, x], argTypes := #[t, tx] })
    (base : Nat) (e : TypeId) (i : TypeInfo) (z : Value) (size bytes : Nat) (ht : P.underlying t = some (.slice e)) (hi : P.info? e = some i) (hz : i.zero = some z)
    (hsize : i.size = size) (hby : i.bytes = bytes) (hzs : z.cells.size = size)
    (v : Value) (n : Nat) (xs : List Value) (hv : a.eval s = v) (hown : w.ownsRow base e size v n xs)
    (xv : Value) (m : Nat) (news : List Value) (hx : a.eval x = xv) (hs : Src P size tx xv m news w)
    (h63 : n + m ≤ maxLen) (hbytes : (n + m) * bytes ≤ 140737488355328) (hbase : base ≤ w.heap.size)
    (h : ∀ v' w', App base e size w v n xs w' v' m news → wpList P ops Q rest (a.put o.dst v') w') : wpList P ops Q (o :: rest) a w := by
  refine wpList_plain hgd fun K hK => ?_
  obtain ⟨v', w', hr, h2⟩ := run_append_app (P := P) w base t tx o.type e i z size bytes ht hi hz hsize hby hzs v n xs hown xv m news hs h63 hbytes hbase
  unfold Oper.wp execOp
  simp only [ho, resolve, invoke, builtin, Sem.run_bind, Sem.run_pure, Result.andThen_ok, List.map_toArray, List.map_cons, List.map_nil, hv, hx, hr]
  exact hK _ _ (h v' w' h2)

/-- A row of the call's own (nil too) as what is appended. -/
theorem Src.ofOwn {base : Nat} {e : TypeId} {size : Nat} {tx e' : TypeId} (hk : P.underlying tx = some (.slice e')) {v : Value} {n : Nat} {xs : List Value} (h : w.ownsRow base e size v n xs) (h1 : ∀ u ∈ xs, u.oneCell' = true) : Src P size tx v n xs w := by
  rcases h.2 with ⟨rfl, rfl⟩ | ⟨g, cap, cur, rfl, _⟩
  · obtain rfl : xs = [] := List.eq_nil_of_length_eq_zero (by simpa using h.1)
    exact Src.ofNil w hk 0
  · exact Src.ofSlice w hk ⟨g, 0, none⟩ n cap xs h.1 (h.cells (g := g) rfl) h1
end
end Go.Proofs.Qxb6600061a
