/-
  b1020a, THE WALK OF 'sidf.number' (function 5): it answers 'numOut' of the bytes, or the bits' value.
-/
import Derived.Test.YbulkucgRows
import Derived.Test.YbulkucgPlain
import Derived.WalkKit
namespace Go.Proofs.Ybulkucg
open Go.RowKit

/-- The field holds bits: their value. -/
theorem number_bits (o f s v : Int) (a : Option Addr) (len cap : Nat) (w : World) (hv : 0 ≤ v ∧ v ≤ 255) :
    Calls Yba.prog 5 #[.agg #[.int .i64 o, .int .u32 f, .int .u64 s, .bool true, .int .u8 v], .slice a len cap] w fun e w' => e = .returned (.int .u64 v) ∧ Below w.heap.size w w' := by
  go_enter Yba.func5, Yba.ntmps5
  go_wp2
  go_ret
  exact ⟨rfl, (Below.refl _ w).alloc (Nat.le_refl _) _⟩

/-- No byte, a nil slice too. -/
theorem number_empty (o f s v : Int) (a : Option Addr) (cap : Nat) (w : World) :
    Calls Yba.prog 5 #[.agg #[.int .i64 o, .int .u32 f, .int .u64 s, .bool false, .int .u8 v], .slice a 0 cap] w fun e w' => e = .returned (.int .u64 0) ∧ Below w.heap.size w w' := by
  go_enter Yba.func5, Yba.ntmps5
  go_wp2
  refine wp_loop_rounds 1 ?_
  rw [rounds_succ]
  go_wp2
  go_ret
  exact ⟨rfl, (Below.refl _ w).alloc (Nat.le_refl _) _⟩

/-- At least one byte. -/
theorem number_any (o f s v : Int) (b off len cap : Nat) (l : List Int) (w : World) (hb : Bytes l) (hl : l.length = len) (hbig : len ≤ 1024) (hc : ∀ j, j < len → w.cell? ⟨b, off + j, none⟩ = some (.int .u8 (byteAt l j))) :
    Calls Yba.prog 5 #[.agg #[.int .i64 o, .int .u32 f, .int .u64 s, .bool false, .int .u8 v], .slice (some ⟨b, off, none⟩) len cap] w fun e w' => e = .returned (.int .u64 (numOut l)) ∧ Below w.heap.size w w' := by
  go_enter Yba.func5, Yba.ntmps5
  go_wp2
  go_loop [5, 15] (fun n i => ∃ k : Nat, k ≤ len ∧ i = .int .i64 k ∧ n = .int .u64 (acc l k) ∧ ZeroTo l k) (fun _ i => len - (intOf i).toNat)
  case atStart => exact ⟨0, Nat.zero_le _, rfl, rfl, fun j h8 hj => by omega⟩
  case round =>
    obtain ⟨k, hk, rfl, rfl, hz⟩ := hrel
    have hcell : ∀ o1, k < len → (w.alloc o1).cell? ⟨b, off + k, none⟩ = some (.int .u8 (byteAt l k)) := fun o1 hlt => (World.cell?_alloc_lt w o1 _ (World.block_lt_of_cell? w _ (hc k hlt))).trans (hc k hlt)
    have hB := byteAt_bounds hb k
    have hs : 8 ≤ (k : Int) → ∀ W, Sem.run Yba.prog (Op.shift .shl .u64 (byteAt l k) .i64 (8 * (k : Int))) W = .ok (.int .u64 (shl8 (byteAt l k) k)) W := fun _ W => run_shl8 Yba.prog (byteAt l k) k W
    have HL : Hid (l.length = len) := hl
    clear hl
    go_wp2
    · have h8 : 8 ≤ (k : Int) := by assumption
      have hne : (byteAt l k != 0) = true := by assumption
      go_ret
      refine ⟨?_, (Below.refl _ w).alloc (Nat.le_refl _) _⟩
      rw [numOut_big (k := k) (by omega) (by simpa [byteAt] using hne)]
      rfl
    · have hlt : k < len := by assumption
      have h8 : 8 ≤ (k : Int) := by assumption
      have hne : (byteAt l k != 0) = false := by assumption
      have h0 : byteAt l k = 0 := by simpa using hne
      go_round
      case rel =>
        refine ⟨k + 1, by omega, by go_num, ?_, zeroTo_succ hz (fun _ => h0)⟩
        rw [h0, shl8_zero, acc_high hb (by omega)]
      case measure => simp only [intOf]; omega
    · have hlt : k < len := by assumption
      have h8 : ¬ 8 ≤ (k : Int) := by assumption
      go_round
      case rel =>
        refine ⟨k + 1, by omega, by go_num, ?_, zeroTo_succ hz (fun h => by omega)⟩
        rw [acc_low hb (by rw [HL.out]; exact hlt) (by omega)]
      case measure => simp only [intOf]; omega
    · have hge : ¬ k < len := by assumption
      have hkl : k = l.length := by have := HL.out; omega
      go_ret
      refine ⟨?_, (Below.refl _ w).alloc (Nat.le_refl _) _⟩
      rw [numOut_zero (by rw [← hkl]; exact hz), ← acc_all (k := k) (by omega)]
      rfl

end Go.Proofs.Ybulkucg
