/-
  b1021a: 'Rows.LawS1021CXorAllSaid' PROVED. The frame is the guide's own shell for this function; the walk is ours: the two callees by their contracts (YbulkucuWord, YbulkucuBip).
-/
import Derived.Test.YbulkucuRows
import Derived.Test.YbulkucuBip
import Derived.WalkKit
import Derived.ProofKit
import Derived.OpenShut
import Derived.ShutString
import Derived.ChangeOld
import Derived.Below
namespace Go.Proofs.Ybulkucu.lawS1021CXorAll
open Go.ChangeShapes Go.WideShapes Go.ChangeAt Go.RowKit
open Go.ChangeMaps (open_string shut_string)
set_option linter.unusedVariables false

theorem own : ownKnob Yba.prog.godebug = none := by kernel_rfl
theorem laidOut : laidOutB Yba.prog = true := by kernel_rfl

/-- WHAT THE WALK IS TOLD OF A SLICE OF INTEGERS THAT CAME IN: it is nil; or it leads to a row of 'cap' cells, the numbers 'zs' (the first 'len' are its elements, the rest its spare room), each fitting its kind. -/
def IsRow (k : IntKind) (w : World) (a : Option Addr) (len cap : Nat) (zs : List Int) : Prop :=
  (a = none ∧ len = 0 ∧ cap = 0 ∧ zs = []) ∨
  ∃ x, a = some x ∧ len ≤ cap ∧ cap ≤ maxLen ∧ zs.length = cap ∧ (∀ i, i < zs.length → w.cell? (x.add i) = some (.int k (zs.getD i 0))) ∧ ∀ n ∈ zs, (Lit.int k n).wf = true

/-! ### STEP 1: THE WALK: the Go text returns true, and writes nothing that was there -/
theorem walk_long (a0 : Option Addr) (len cap : Nat) (w : World) (h : (4096 : Int) < (len : Int)) :
    Calls Yba.prog 3 #[.slice a0 len cap] w fun e w' => e = .returned (.bool true) ∧ Below w.heap.size w w' := by
  go_enter Yba.func3, Yba.ntmps3
  go_wp2
  go_ret
  exact ⟨rfl, Below.refl _ _⟩

/-- At most 4096 bytes: whatever number r both callees answer, the law compares r with r. -/
theorem walk_core (a0 : Option Addr) (len cap : Nat) (r : Int) (w : World) (h : ¬ (4096 : Int) < (len : Int))
    (hN : Hid (∀ W, Below w.heap.size w W → Calls Yba.prog 5 #[.slice a0 len cap] W fun e W' => e = .returned (.int .u8 r) ∧ Below W.heap.size W W'))
    (hM : Hid (∀ W, Below w.heap.size w W → Calls Yba.prog 6 #[.slice a0 len cap] W fun e W' => e = .returned (.int .u8 r) ∧ W' = W)) :
    Calls Yba.prog 3 #[.slice a0 len cap] w fun e w' => e = .returned (.bool true) ∧ Below w.heap.size w w' := by
  go_enter Yba.func3, Yba.ntmps3
  go_wp2_with fail
  refine (hN.out _ (Below.refl _ _)).mono ?_
  rintro e W ⟨rfl, hW⟩
  go_wp2_with fail
  refine (hM.out _ hW).mono ?_
  rintro e W2 ⟨rfl, rfl⟩
  go_wp2
  go_ret
  exact ⟨rfl, hW⟩

theorem walk (a0 : Option Addr) (len0 cap0 : Nat) (z0 : List Int) (w : World) (w0 : IsRow .u8 w a0 len0 cap0 z0) :
    Calls Yba.prog 3 #[.slice a0 len0 cap0] w fun e w' => e = .returned (.bool true) ∧ Below w.heap.size w w' := by
  by_cases hlong : (4096 : Int) < (len0 : Int)
  · exact walk_long a0 len0 cap0 w hlong
  by_cases h0 : len0 = 0
  · subst h0
    exact walk_core a0 0 cap0 0 w hlong (fun W _ => bip_empty a0 cap0 W) (fun W _ => xor_empty a0 cap0 W)
  · rcases w0 with ⟨_, rfl, _, _⟩ | ⟨⟨b, off, spot⟩, rfl, hl, hm, hz, hcell, hwz⟩
    · exact absurd rfl h0
    have hspot : spot = none := by simpa [Addr.add] using World.cell?_spot (hcell 0 (by omega))
    subst hspot
    have hB : ∀ j, 0 ≤ z0.getD j 0 ∧ z0.getD j 0 ≤ 255 := by
      intro j
      have := range_u8 hwz j
      rw [List.getD_eq_getElem?_getD]
      exact this
    have hx : ∀ j, (fun j => (z0.getD j 0).toNat) j < 256 := by
      intro j
      have := hB j
      show (z0.getD j 0).toNat < 256
      omega
    have hc : ∀ j, j < len0 → w.cell? ⟨b, off + j, none⟩ = some (.int .u8 (((fun j => (z0.getD j 0).toNat) j : Nat) : Int)) := by
      intro j hj
      have h1 := hcell j (by omega)
      rw [add_plain] at h1
      rw [h1]
      have := hB j
      have e : (((z0.getD j 0).toNat : Nat) : Int) = z0.getD j 0 := Int.toNat_of_nonneg this.1
      show _ = some (Value.int IntKind.u8 (((z0.getD j 0).toNat : Nat) : Int))
      rw [e]
    have hcW : ∀ W, Below w.heap.size w W → ∀ j, j < len0 → W.cell? ⟨b, off + j, none⟩ = some (.int .u8 (((fun j => (z0.getD j 0).toNat) j : Nat) : Int)) :=
      fun W hW j hj => (hW.cell (World.block_lt_of_cell? _ _ (hc j hj))).trans (hc j hj)
    exact walk_core _ len0 cap0 (xorTo (fun j => (z0.getD j 0).toNat) len0) w hlong
      (fun W hW => bip_any (fun j => (z0.getD j 0).toNat) b off len0 cap0 W hx (by omega) hl hm (hcW W hW))
      (fun W hW => xor_any (fun j => (z0.getD j 0).toNat) b off len0 cap0 W hx (by omega) (hcW W hW))

/-! ### THE ROW's STEP: WRITTEN OUT: LEAVE IT -/
set_option maxRecDepth 100000 in
theorem lifted (os : Os) (started : os.Started) (H : Type) (enc : TypeId × Value → H) :
    ReturnsInHanded {} Yba.checked os 3 .any (Rows.lawS1021CXorAllSpec.pre6 enc Yba.prog Yba.f3 Rows.lawS1021CXorAllRow.domain false) (Rows.lawS1021CXorAllSpec.post enc Yba.prog Yba.f3 false true false false) := by
  refine returnsInHanded_of_change (C := Yba.checked) own started (by kernel_rfl) Yba.func3
    (ChangeSpec.witness6 (enc := enc) (C := Yba.checked) false ⟨#[], #[.slice none 0 0], []⟩ 8 (by kernel_rfl) (by kernel_rfl) (by kernel_rfl) (by kernel_rfl)) ?_
  intro W base args ds gs before hval0 hW hcnd _
  have hval : ∀ (j : Nat) t v, Yba.f3.params[j]? = some t → args[j]? = some v → Value.okWide Yba.prog W .any base t v := hval0
  have hW' := hW
  obtain ⟨p, q, hA0, hV, rfl, hfz, hnd⟩ := hW
  have hA : DataW.TrodAll enc Yba.prog W 0 (fun _ => true) true Yba.f3.params.toList args.toList ds p := hA0
  rw [Yba.params3] at hA hval
  obtain ⟨v0, vs0, d0, ds0, p0, q0, hargs, rfl, rfl, h0, r0⟩ := trodAll_cons hA
  obtain ⟨rfl, rfl, rfl⟩ := trodAll_nil r0
  obtain rfl : args = #[v0] := by cases args; simp_all
  obtain ⟨rfl, rfl⟩ := trodVars_none hV
  obtain ⟨a0, len0, cap0, rfl⟩ := okWide_slice Yba.underlying22 (hval 0 22 v0 rfl rfl)
  have k0 := h0
  have lt0 : ∀ x ∈ p0, x.block < W.heap.size := by obtain ⟨m, hm⟩ := k0; exact DataW.trod_lt m _ _ _ hm
  obtain ⟨z0, w0⟩ : ∃ zs, IsRow .u8 W a0 len0 cap0 zs := by
    obtain ⟨fuel, hf⟩ := h0
    rcases open_ints Yba.underlying22 Yba.underlying5 (by kernel_rfl) hf with ⟨hcs, _⟩ | ⟨x, l, c, zs, hcs, _, hl, hm, hz, _, hcell, hwz⟩
    · simp [Value.cells] at hcs
      obtain ⟨rfl, rfl, rfl⟩ := hcs
      exact ⟨[], .inl ⟨rfl, rfl, rfl, rfl⟩⟩
    · simp [Value.cells] at hcs
      obtain ⟨rfl, rfl, rfl⟩ := hcs
      exact ⟨zs, .inr ⟨_, rfl, hl, hm, by simpa using hz, hcell, hwz⟩⟩
  clear hA0 hval0
  refine (walk a0 len0 cap0 z0 W w0).mono fun e W' ⟨he, bel⟩ => ?_
  subst he
  exact ⟨_, rfl, _, _, _, [], _, [], hW', trodAll_mk1 (shut_bool Yba.underlying4 _), (trodAll_cons_mk (Below.trod laidOut (by kernel_rfl) (of_decide_eq_true (by kernel_rfl)) k0 bel lt0) trodAll_mk0), rfl, bel.frame _, fun h => by cases h⟩

theorem over : Rows.lawS1021CXorAllRow.holds Yba.pinned (OpenSpec.ofChange Rows.lawS1021CXorAllSpec) :=
  OpenClaim.holds_of_wide 3 Yba.f3 rfl rfl rfl rfl rfl rfl rfl ⟨rfl, rfl, rfl, rfl, rfl⟩ rfl rfl rfl rfl rfl (by kernel_rfl) Yba.func3 (by kernel_rfl)
    (of_decide_eq_true (by kernel_rfl)) (by unfold Func.isWrapper; first | (rw [if_pos (by decide +kernel)]; kernel_rfl) | (rw [if_neg (by decide +kernel)]; exact ⟨rfl, rfl⟩))
    (fun os started H enc _ => lifted os started H enc)

/-- ████ THE STATEMENT ████ -/
theorem proved : Rows.LawS1021CXorAllSaid := over
#print axioms proved
end Go.Proofs.Ybulkucu.lawS1021CXorAll
