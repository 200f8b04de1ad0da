/-
  b1023a: THE TEXT THAT 'LawS1023AShape' BUILDS: a row of bytes of the call's own, appended to again and again; made a string at the end. The laws are the library's ('wpList_append_own', 'wpList_append_grows', 'wpList_append_own_string', 'run_convert_bytes_arg'), said of one word, 'Own'.
-/
import Derived.Test.YbulkudwRows
import Derived.WalkKit
import Derived.Lib.SlBytesConst
import Derived.Lib.AppendStr
import Derived.ArgAppend
import Derived.Laws.BytesArg
namespace Go.Proofs.Ybulkudw
open Go.RowKit

theorem info5 : (Yba.prog.info? 5).map (fun i => (i.zero, i.size, i.bytes)) = some (some (.int .u8 0), 1, 1) := by kernel_rfl

/-- The slice value v owns the bytes xs, in the world wr; what was there when the call began (in w) is as it was. -/
def Own (w wr : World) (v : Value) (xs : List Int) : Prop :=
  wr.ownsRow w.heap.size 5 1 v xs.length (xs.map (Value.int .u8)) ∧ Below w.heap.size w wr

theorem news_cells (wr : World) (news : List Int) (j : Nat) (u : Value) (h : (news.map (Value.int .u8))[j]? = some u) :
    (wr.alloc (.cells (news.map (Value.int .u8)).toArray 5)).cell? ((⟨wr.heap.size, 0, none⟩ : Addr).add j) = some u := by
  rw [Addr.add_lit, Nat.zero_add, World.cell?_alloc_new]
  simpa using h

theorem one_cell (news : List Int) : ∀ u ∈ news.map (Value.int .u8), u.oneCell' = true := by
  intro u hu
  obtain ⟨z, _, rfl⟩ := List.mem_map.1 hu
  rfl

theorem own_grown {w wr w' : World} {v v' : Value} {xs ys : List Int} (h : Own w wr v xs) (hg : wr.grownBy w' v.ownBlock) (ho : w'.ownsRow w.heap.size 5 1 v' ys.length (ys.map (Value.int .u8))) : Own w w' v' ys :=
  ⟨ho, h.2.grown hg h.2.size (fun k hk => (h.1.lt k hk).1)⟩

theorem Own.alloc {w wr : World} {v : Value} {xs : List Int} (h : Own w wr v xs) (o : Obj) : Own w (wr.alloc o) v xs := ⟨World.ownsRow.alloc h.1 o, h.2.alloc h.2.size o⟩

/-- 'b = append(b, x, y ..)': the new bytes lie in a block that was laid just before. -/
theorem app_step {w wr : World} {ops : Array Oper} {rest : List Oper} {o : Oper} {a : Act} {Q : Exit → Act → World → Prop} (hgd : o.guard = none) (s x : Operand)
    (ho : o.op = .call { callee := .builtin .append, args := #[s, x], argTypes := #[22, 22] }) {v : Value} {xs : List Int} (news : List Int) {cs : Array Value} {m : Nat} (hown : Own w wr v xs) (hs : a.eval s = v)
    (hx : a.eval x = .slice (some ⟨wr.heap.size, 0, none⟩) m m) (hcs : cs = (news.map (Value.int .u8)).toArray) (hm : news.length = m) (hb : xs.length + m ≤ 100)
    (h : ∀ v' w', Own w w' v' (xs ++ news) → wpList Yba.prog ops Q rest (a.put o.dst v') w') : wpList Yba.prog ops Q (o :: rest) a (wr.alloc (.cells cs 5)) := by
  subst hcs
  obtain ⟨i0, hi, hz0, hz1, hz2⟩ := info_parts info5
  refine wpList_append_own _ hgd s x 22 ho w.heap.size 5 i0 (.int .u8 0) 1 1 Yba.underlying22 hi hz0 hz1 hz2 rfl (by decide) v xs.length (xs.map (Value.int .u8)) hs (hown.alloc _).1
    ⟨wr.heap.size, 0, none⟩ m m (news.map (Value.int .u8)) hx (by simp [hm]) (news_cells wr news) (one_cell news) (by unfold maxLen; omega) (by omega) (hown.alloc _).2.size ?_
  intro v' w' hown' hg _
  refine h v' w' (own_grown (hown.alloc _) hg ?_)
  rw [List.length_append, hm, List.map_append]
  exact hown'

/-- The first append, onto the row of a constant: it is full: a new row is made. -/
theorem app_first {w : World} {ops : Array Oper} {rest : List Oper} {o : Oper} {a : Act} {Q : Exit → Act → World → Prop} (hgd : o.guard = none) (s x : Operand)
    (ho : o.op = .call { callee := .builtin .append, args := #[s, x], argTypes := #[22, 22] }) (xs news : List Int) {C cs : Array Value} {n m : Nat} {fz : Nat × Nat}
    (hs : a.eval s = .slice (some ⟨w.heap.size, 0, none⟩) n n) (hx : a.eval x = .slice (some ⟨w.heap.size + 1, 0, none⟩) m m) (hC : C = (xs.map (Value.int .u8)).toArray) (hcs : cs = (news.map (Value.int .u8)).toArray)
    (hn : xs.length = n) (hm : news.length = m) (hm0 : 0 < m) (hb : n + m ≤ 100)
    (h : ∀ v' w', Own w w' v' (xs ++ news) → wpList Yba.prog ops Q rest (a.put o.dst v') w') : wpList Yba.prog ops Q (o :: rest) a ((w.alloc (.cells C 5 fz)).alloc (.cells cs 5)) := by
  subst hcs hC
  obtain ⟨i0, hi, hz0, hz1, hz2⟩ := info_parts info5
  have b1 : Below w.heap.size w (w.alloc (.cells (xs.map (Value.int .u8)).toArray 5 fz)) := (Below.refl _ w).alloc (Nat.le_refl _) _
  have b2 : Below w.heap.size w ((w.alloc (.cells (xs.map (Value.int .u8)).toArray 5 fz)).alloc (.cells (news.map (Value.int .u8)).toArray 5)) := b1.alloc b1.size _
  have es : (w.alloc (.cells (xs.map (Value.int .u8)).toArray 5 fz)).heap.size = w.heap.size + 1 := by simp
  refine wpList_append_grows _ hgd s x 22 ho 5 i0 (.int .u8 0) 1 1 Yba.underlying22 hi hz0 hz1 hz2 rfl (by decide) (some ⟨w.heap.size, 0, none⟩) n n (xs.map (Value.int .u8)) hs (by simp) (by simp [hn]) ?_
    ⟨w.heap.size + 1, 0, none⟩ m m (news.map (Value.int .u8)) hx (by simp [hm]) ?_ (one_cell news) (by omega) (by unfold maxLen; omega) (by omega) ?_
  · intro b hbb j u hj
    cases hbb
    rw [Addr.add_lit, Nat.zero_add, World.cell?_alloc_lt _ _ _ (by rw [es]; exact Nat.lt_succ_self _), World.cell?_alloc_mark]
    simpa using hj
  · intro j u hj
    have := news_cells (w.alloc (.cells (xs.map (Value.int .u8)).toArray 5 fz)) news j u hj
    rw [es] at this
    exact this
  · intro v' w' hown' hg
    refine h v' w' ⟨?_, b2.grown hg b2.size (fun k hk => by cases hk)⟩
    rw [List.length_append, hn, hm, List.map_append]
    refine ⟨hown'.1, ?_⟩
    rcases hown'.2 with hz | ⟨g, cap, cur, hv, hgb, rest⟩
    · exact .inl hz
    · exact .inr ⟨g, cap, cur, hv, Nat.le_trans b2.size hgb, rest⟩

/-- The bytes of a constant text appended. -/
theorem app_text {w wr : World} {ops : Array Oper} {rest : List Oper} {o : Oper} {a : Act} {Q : Exit → Act → World → Prop} (hgd : o.guard = none) (s x : Operand)
    (ho : o.op = .call { callee := .builtin .append, args := #[s, x], argTypes := #[22, 9] }) {v : Value} {xs : List Int} (news : List Int) {t : ByteArray} (hown : Own w wr v xs) (hs : a.eval s = v)
    (hx : a.eval x = .string t) (hcs : Lib.strCells t = news.map (Value.int .u8)) (hb : xs.length + t.size ≤ 100)
    (h : ∀ v' w', Own w w' v' (xs ++ news) → wpList Yba.prog ops Q rest (a.put o.dst v') w') : wpList Yba.prog ops Q (o :: rest) a wr := by
  obtain ⟨i0, hi, hz0, hz1, hz2⟩ := info_parts info5
  have hm : news.length = t.size := by have := congrArg List.length hcs; rw [Lib.strCells_length] at this; simpa using this.symm
  refine Lib.wpList_append_own_string _ hgd s x 22 9 ho w.heap.size 5 i0 Yba.underlying22 Yba.underlying9 hi hz0 hz1 hz2 v xs.length (xs.map (Value.int .u8)) hs hown.1 t hx (by unfold maxLen; omega) (by omega) hown.2.size ?_
  intro v' w' hown' hg _
  refine h v' w' (own_grown hown hg ?_)
  rw [List.length_append, hm, List.map_append, ← hcs]
  exact hown'

/-- 'string(b)'. -/
theorem own_string {w wr : World} {v : Value} {xs : List Int} (h : Own w wr v xs) (h0 : 0 < xs.length) : (convert 22 9 v).run Yba.prog wr = .ok (.string (strOfNums xs)) wr := by
  rcases h.1.2 with ⟨_, hz⟩ | ⟨g, cap, cur, rfl, _⟩
  · omega
  refine run_convert_bytes_arg wr 22 5 Yba.underlying22 Yba.underlying5 g 0 xs.length cap xs rfl (fun i hi => ?_) 9 Yba.underlying9
  have := h.1.cells (g := g) rfl i (.int .u8 (xs.getD i 0)) (by simp [List.getD_eq_getElem?_getD, List.getElem?_eq_getElem hi])
  rw [Addr.add_lit] at this
  exact this

end Go.Proofs.Ybulkudw
