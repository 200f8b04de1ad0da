/-
  b1020a: 'Rows.LawS1020AModelSaid' PROVED. The frame is the guide's own shell for this function; the walk is ours: the two callees by their contracts (YbulkucgNumber, YbulkucgModel).
-/
import Derived.Test.YbulkucgRows
import Derived.Test.YbulkucgNumber
import Derived.Test.YbulkucgModel
import Derived.WalkKit
import Derived.ProofKit
import Derived.OpenShut
import Derived.ShutString
import Derived.ChangeOld
import Derived.Below
namespace Go.Proofs.Ybulkucg.lawS1020AModel
open Go.ChangeShapes Go.WideShapes Go.ChangeAt Go.RowKit
open Go.ChangeMaps (open_string shut_string)
set_option linter.unusedVariables false

theorem own : ownKnob Yba.prog.godebug = none := by kernel_rfl
theorem laidOut : laidOutB Yba.prog = true := by kernel_rfl

/-- WHAT THE WALK IS TOLD OF A SLICE OF INTEGERS THAT CAME IN: it is nil; or it leads to a row of 'cap' cells, the numbers 'zs' (the first 'len' are its elements, the rest its spare room), each fitting its kind. -/
def IsRow (k : IntKind) (w : World) (a : Option Addr) (len cap : Nat) (zs : List Int) : Prop :=
  (a = none ∧ len = 0 ∧ cap = 0 ∧ zs = []) ∨
  ∃ x, a = some x ∧ len ≤ cap ∧ cap ≤ maxLen ∧ zs.length = cap ∧ (∀ i, i < zs.length → w.cell? (x.add i) = some (.int k (zs.getD i 0))) ∧ ∀ n ∈ zs, (Lit.int k n).wf = true

/-! ### STEP 1: THE WALK: the Go text returns true, and writes nothing that was there -/
theorem walk_long (a0 : Bool) (a1 a2 a3 a4 : Int) (a5 : Option Addr) (len cap : Nat) (w : World) (h : (1024 : Int) < (len : Int)) :
    Calls Yba.prog 3 #[.bool a0, .int .u8 a1, .int .u64 a2, .int .i64 a3, .int .u32 a4, .slice a5 len cap] w fun e w' => e = .returned (.bool true) ∧ Below w.heap.size w w' := by
  go_enter Yba.func3, Yba.ntmps3
  go_wp2
  go_ret
  exact ⟨rfl, Below.refl _ _⟩

/-- At most 1024 bytes: whatever number r both callees answer, the law compares r with r. -/
theorem walk_core (a0 : Bool) (a1 a2 a3 a4 : Int) (a5 : Option Addr) (len cap : Nat) (r : Int) (w : World) (h : ¬ (1024 : Int) < (len : Int))
    (hN : Hid (∀ W, Below w.heap.size w W → Calls Yba.prog 5 #[.agg #[.int .i64 a3, .int .u32 a4, .int .u64 a2, .bool a0, .int .u8 a1], .slice a5 len cap] W fun e W' => e = .returned (.int .u64 r) ∧ Below W.heap.size W W'))
    (hM : Hid (∀ W, Below w.heap.size w W → Calls Yba.prog 6 #[.bool a0, .int .u8 a1, .slice a5 len cap] W fun e W' => e = .returned (.int .u64 r) ∧ W' = W)) :
    Calls Yba.prog 3 #[.bool a0, .int .u8 a1, .int .u64 a2, .int .i64 a3, .int .u32 a4, .slice a5 len cap] w fun e w' => e = .returned (.bool true) ∧ Below w.heap.size w w' := by
  go_enter Yba.func3, Yba.ntmps3
  go_wp2_with fail
  have b1 := (Below.refl w.heap.size w).alloc (Nat.le_refl _) (.cells #[.int .i64 a3, .int .u32 a4, .int .u64 a2, .bool a0, .int .u8 a1] 27)
  refine (hN.out _ b1).mono ?_
  rintro e W ⟨rfl, hW⟩
  have b2 : Below w.heap.size w W := b1.trans (hW.mono (by simp))
  clear b1 hW
  go_wp2_with fail
  refine (hM.out _ b2).mono ?_
  rintro e W2 ⟨rfl, rfl⟩
  go_wp2
  go_ret
  exact ⟨rfl, b2⟩

theorem walk (a0 : Bool) (a1 : Int) (a2 : Int) (a3 : Int) (a4 : Int) (a5 : Option Addr) (len5 cap5 : Nat) (z5 : List Int) (w : World) (w1 : (Lit.int .u8 a1).wf = true) (w2 : (Lit.int .u64 a2).wf = true) (w3 : (Lit.int .i64 a3).wf = true) (w4 : (Lit.int .u32 a4).wf = true) (w5 : IsRow .u8 w a5 len5 cap5 z5) :
    Calls Yba.prog 3 #[.bool a0, .int .u8 a1, .int .u64 a2, .int .i64 a3, .int .u32 a4, .slice a5 len5 cap5] w fun e w' => e = .returned (.bool true) ∧ Below w.heap.size w w' := by
  by_cases hlong : (1024 : Int) < (len5 : Int)
  · exact walk_long a0 a1 a2 a3 a4 a5 len5 cap5 w hlong
  have hv := bounds_u8 w1
  cases a0 with
  | true =>
    have hv' : 0 ≤ a1 ∧ a1 ≤ 255 := by omega
    exact walk_core true a1 a2 a3 a4 a5 len5 cap5 a1 w hlong (fun W _ => number_bits a3 a4 a2 a1 a5 len5 cap5 W hv') (fun W _ => model_bits a1 a5 len5 cap5 W hv')
  | false =>
    by_cases h0 : len5 = 0
    · subst h0
      exact walk_core false a1 a2 a3 a4 a5 0 cap5 0 w hlong (fun W _ => number_empty a3 a4 a2 a1 a5 cap5 W) (fun W _ => model_empty a1 a5 cap5 W)
    · rcases w5 with ⟨_, rfl, _, _⟩ | ⟨⟨b, off, spot⟩, rfl, hl, hm, hz, hcell, hwz⟩
      · exact absurd rfl h0
      have hspot : spot = none := by simpa [Addr.add] using World.cell?_spot (hcell 0 (by omega))
      subst hspot
      have hB : Bytes (z5.take len5) := by
        intro z hz'
        have := bounds_u8 (hwz z (List.mem_of_mem_take hz'))
        omega
      have hlen : (z5.take len5).length = len5 := by simp; omega
      have hc : ∀ j, j < len5 → w.cell? ⟨b, off + j, none⟩ = some (.int .u8 (byteAt (z5.take len5) j)) := by
        intro j hj
        have h1 := hcell j (by omega)
        rw [add_plain] at h1
        rw [h1]
        simp [byteAt, List.getD_eq_getElem?_getD, hj]
      have hcW : ∀ W, Below w.heap.size w W → ∀ j, j < len5 → W.cell? ⟨b, off + j, none⟩ = some (.int .u8 (byteAt (z5.take len5) j)) :=
        fun W hW j hj => (hW.cell (World.block_lt_of_cell? _ _ (hc j hj))).trans (hc j hj)
      exact walk_core false a1 a2 a3 a4 _ len5 cap5 (numOut (z5.take len5)) w hlong
        (fun W hW => number_any a3 a4 a2 a1 b off len5 cap5 (z5.take len5) W hB hlen (by omega) (hcW W hW))
        (fun W hW => model_any a1 b off len5 cap5 (z5.take len5) W hB hlen (by omega) (hcW W hW))

/-! ### THE ROW's STEP: WRITTEN OUT: LEAVE IT -/
set_option maxRecDepth 100000 in
theorem lifted (os : Os) (started : os.Started) (H : Type) (enc : TypeId × Value → H) :
    ReturnsInHanded {} Yba.checked os 3 .any (Rows.lawS1020AModelSpec.pre6 enc Yba.prog Yba.f3 Rows.lawS1020AModelRow.domain false) (Rows.lawS1020AModelSpec.post enc Yba.prog Yba.f3 false true false false) := by
  refine returnsInHanded_of_change (C := Yba.checked) own started (by kernel_rfl) Yba.func3
    (ChangeSpec.witness6 (enc := enc) (C := Yba.checked) false ⟨#[], #[.bool false, .int .u8 0, .int .u64 0, .int .i64 0, .int .u32 0, .slice none 0 0], []⟩ 8 (by kernel_rfl) (by kernel_rfl) (by kernel_rfl) (by kernel_rfl)) ?_
  intro W base args ds gs before hval0 hW hcnd _
  have hval : ∀ (j : Nat) t v, Yba.f3.params[j]? = some t → args[j]? = some v → Value.okWide Yba.prog W .any base t v := hval0
  have hW' := hW
  obtain ⟨p, q, hA0, hV, rfl, hfz, hnd⟩ := hW
  have hA : DataW.TrodAll enc Yba.prog W 0 (fun _ => true) true Yba.f3.params.toList args.toList ds p := hA0
  rw [Yba.params3] at hA hval
  obtain ⟨v0, vs0, d0, ds0, p0, q0, hargs, rfl, rfl, h0, r0⟩ := trodAll_cons hA
  obtain ⟨v1, vs1, d1, ds1, p1, q1, rfl, rfl, rfl, h1, r1⟩ := trodAll_cons r0
  obtain ⟨v2, vs2, d2, ds2, p2, q2, rfl, rfl, rfl, h2, r2⟩ := trodAll_cons r1
  obtain ⟨v3, vs3, d3, ds3, p3, q3, rfl, rfl, rfl, h3, r3⟩ := trodAll_cons r2
  obtain ⟨v4, vs4, d4, ds4, p4, q4, rfl, rfl, rfl, h4, r4⟩ := trodAll_cons r3
  obtain ⟨v5, vs5, d5, ds5, p5, q5, rfl, rfl, rfl, h5, r5⟩ := trodAll_cons r4
  obtain ⟨rfl, rfl, rfl⟩ := trodAll_nil r5
  obtain rfl : args = #[v0, v1, v2, v3, v4, v5] := by cases args; simp_all
  obtain ⟨rfl, rfl⟩ := trodVars_none hV
  obtain ⟨a0, rfl, rfl, rfl⟩ := open_bool Yba.underlying4 (hval 0 4 v0 rfl rfl) h0
  obtain ⟨a1, rfl, rfl, rfl, w1⟩ := open_int Yba.underlying5 (hval 1 5 v1 rfl rfl) h1
  obtain ⟨a2, rfl, rfl, rfl, w2⟩ := open_int Yba.underlying22 (hval 2 22 v2 rfl rfl) h2
  obtain ⟨a3, rfl, rfl, rfl, w3⟩ := open_int Yba.underlying2 (hval 3 2 v3 rfl rfl) h3
  obtain ⟨a4, rfl, rfl, rfl, w4⟩ := open_int Yba.underlying23 (hval 4 23 v4 rfl rfl) h4
  obtain ⟨a5, len5, cap5, rfl⟩ := okWide_slice Yba.underlying24 (hval 5 24 v5 rfl rfl)
  have k5 := h5
  have lt5 : ∀ x ∈ p5, x.block < W.heap.size := by obtain ⟨m, hm⟩ := k5; exact DataW.trod_lt m _ _ _ hm
  obtain ⟨z5, w5⟩ : ∃ zs, IsRow .u8 W a5 len5 cap5 zs := by
    obtain ⟨fuel, hf⟩ := h5
    rcases open_ints Yba.underlying24 Yba.underlying5 (by kernel_rfl) hf with ⟨hcs, _⟩ | ⟨x, l, c, zs, hcs, _, hl, hm, hz, _, hcell, hwz⟩
    · simp [Value.cells] at hcs
      obtain ⟨rfl, rfl, rfl⟩ := hcs
      exact ⟨[], .inl ⟨rfl, rfl, rfl, rfl⟩⟩
    · simp [Value.cells] at hcs
      obtain ⟨rfl, rfl, rfl⟩ := hcs
      exact ⟨zs, .inr ⟨_, rfl, hl, hm, by simpa using hz, hcell, hwz⟩⟩
  clear hA0 hval0
  refine (walk a0 a1 a2 a3 a4 a5 len5 cap5 z5 W w1 w2 w3 w4 w5).mono fun e W' ⟨he, bel⟩ => ?_
  subst he
  exact ⟨_, rfl, _, _, _, [], _, [], hW', trodAll_mk1 (shut_bool Yba.underlying4 _), (trodAll_cons_mk (shut_bool Yba.underlying4 _) (trodAll_cons_mk (shut_int Yba.underlying5 w1) (trodAll_cons_mk (shut_int Yba.underlying22 w2) (trodAll_cons_mk (shut_int Yba.underlying2 w3) (trodAll_cons_mk (shut_int Yba.underlying23 w4) (trodAll_cons_mk (Below.trod laidOut (by kernel_rfl) (of_decide_eq_true (by kernel_rfl)) k5 bel lt5) trodAll_mk0)))))), rfl, bel.frame _, fun h => by cases h⟩

theorem over : Rows.lawS1020AModelRow.holds Yba.pinned (OpenSpec.ofChange Rows.lawS1020AModelSpec) :=
  OpenClaim.holds_of_wide 3 Yba.f3 rfl rfl rfl rfl rfl rfl rfl ⟨rfl, rfl, rfl, rfl, rfl⟩ rfl rfl rfl rfl rfl (by kernel_rfl) Yba.func3 (by kernel_rfl)
    (of_decide_eq_true (by kernel_rfl)) (by unfold Func.isWrapper; first | (rw [if_pos (by decide +kernel)]; kernel_rfl) | (rw [if_neg (by decide +kernel)]; exact ⟨rfl, rfl⟩))
    (fun os started H enc _ => lifted os started H enc)

/-- ████ THE STATEMENT ████ -/
theorem proved : Rows.LawS1020AModelSaid := over
#print axioms proved
end Go.Proofs.Ybulkucg.lawS1020AModel
