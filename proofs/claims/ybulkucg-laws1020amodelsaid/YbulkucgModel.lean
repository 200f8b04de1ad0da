/-
  b1020a, THE WALK OF THE RE-STATEMENT 'sidf.zzs1020amodel' (function 6): it answers 'numOut' of the bytes, or the bits' value. It makes no memory.
-/
import Derived.Test.YbulkucgRows
import Derived.Test.YbulkucgPlain
import Derived.WalkKit
namespace Go.Proofs.Ybulkucg
open Go.RowKit

theorem model_bits (v : Int) (a : Option Addr) (len cap : Nat) (w : World) (hv : 0 ≤ v ∧ v ≤ 255) :
    Calls Yba.prog 6 #[.bool true, .int .u8 v, .slice a len cap] w fun e w' => e = .returned (.int .u64 v) ∧ w' = w := by
  go_enter Yba.func6, Yba.ntmps6
  go_wp2
  go_ret
  exact ⟨rfl, rfl⟩

theorem model_empty (v : Int) (a : Option Addr) (cap : Nat) (w : World) :
    Calls Yba.prog 6 #[.bool false, .int .u8 v, .slice a 0 cap] w fun e w' => e = .returned (.int .u64 0) ∧ w' = w := by
  go_enter Yba.func6, Yba.ntmps6
  go_wp2
  refine wp_loop_rounds 1 ?_
  rw [rounds_succ]
  go_wp2
  refine wp_loop_rounds 1 ?_
  rw [rounds_succ]
  go_wp2
  go_ret
  exact ⟨rfl, rfl⟩

theorem model_any (v : Int) (b off len cap : Nat) (l : List Int) (w : World) (hb : Bytes l) (hl : l.length = len) (hbig : len ≤ 1024) (hc : ∀ j, j < len → w.cell? ⟨b, off + j, none⟩ = some (.int .u8 (byteAt l j))) :
    Calls Yba.prog 6 #[.bool false, .int .u8 v, .slice (some ⟨b, off, none⟩) len cap] w fun e w' => e = .returned (.int .u64 (numOut l)) ∧ w' = w := by
  have HL : Hid (l.length = len) := hl
  clear hl
  go_enter Yba.func6, Yba.ntmps6
  go_wp2
  go_loop [7] (fun i => ∃ k : Nat, 8 ≤ k ∧ (k ≤ len ∨ k = 8) ∧ i = .int .i64 k ∧ ZeroTo l k) (fun i => len - (intOf i).toNat)
  case atStart => exact ⟨8, by omega, by omega, rfl, fun j h8 hj => by omega⟩
  case round =>
    obtain ⟨k, h8, hk, rfl, hz⟩ := hrel
    have hcell : k < len → w.cell? ⟨b, off + k, none⟩ = some (.int .u8 (byteAt l k)) := fun h => hc k h
    have hB := byteAt_bounds hb k
    go_wp2
    · have hne : (byteAt l k != 0) = true := by assumption
      go_ret
      refine ⟨?_, rfl⟩
      rw [numOut_big (k := k) (by omega) (by simpa [byteAt] using hne)]
      rfl
    · have hlt : k < len := by assumption
      have hne : (byteAt l k != 0) = false := by assumption
      have h0 : byteAt l k = 0 := by simpa using hne
      go_round
      case rel => exact ⟨k + 1, by omega, by omega, by go_num, zeroTo_succ hz (fun _ => h0)⟩
      case measure => simp only [intOf]; omega
    · -- behind the first loop: no later byte is set; the second loop goes down from 8
      have hge : ¬ k < len := by assumption
      have hK : 8 < (len : Int) := by assumption
      have hzl : ZeroTo l l.length := fun j h hj => hz j h (by have := HL.out; omega)
      have HO : Hid (numOut l = accDown l 0) := numOut_zero hzl
      have HS : Hid (accDown l 8 = 0) := accDown_start l (by have := HL.out; omega)
      clear hz hzl hcell hB
      go_loop [9, 10] (fun n i => ∃ j : Nat, j ≤ 8 ∧ i = .int .i64 ((j : Int) - 1) ∧ n = .int .u64 (accDown l j)) (fun _ i => (intOf i + 1).toNat)
      case atStart => exact ⟨8, Nat.le_refl _, by go_num, by rw [HS.out]⟩
      case round =>
        obtain ⟨j, hj, rfl, rfl⟩ := hrel
        cases j with
        | zero =>
          go_wp2
          go_ret
          refine ⟨?_, rfl⟩
          rw [HO.out]
          rfl
        | succ j =>
          have ej : ((j + 1 : Nat) : Int) - 1 = (j : Int) := by omega
          rw [ej]
          clear ej
          have hlt : j < len := by omega
          have hcell := hc j hlt
          have hB := byteAt_bounds hb j
          go_wp2
          go_round
          case rel =>
            refine ⟨j, by omega, by go_num, ?_⟩
            have hs := accDown_step hb (j := j) (by rw [HL.out]; exact hlt) (by omega)
            rw [hs]
          case measure => simp only [intOf]; omega
    · -- behind the first loop: no later byte is set; the second loop goes down from len
      have hge : ¬ k < len := by assumption
      have hK : (len : Int) ≤ 8 := by assumption
      have hzl : ZeroTo l l.length := fun j h hj => hz j h (by have := HL.out; omega)
      have HO : Hid (numOut l = accDown l 0) := numOut_zero hzl
      have HS : Hid (accDown l len = 0) := accDown_start l (by have := HL.out; omega)
      clear hz hzl hcell hB
      go_loop [9, 10] (fun n i => ∃ j : Nat, j ≤ len ∧ i = .int .i64 ((j : Int) - 1) ∧ n = .int .u64 (accDown l j)) (fun _ i => (intOf i + 1).toNat)
      case atStart => exact ⟨len, Nat.le_refl _, by go_num, by rw [HS.out]⟩
      case round =>
        obtain ⟨j, hj, rfl, rfl⟩ := hrel
        cases j with
        | zero =>
          go_wp2
          go_ret
          refine ⟨?_, rfl⟩
          rw [HO.out]
          rfl
        | succ j =>
          have ej : ((j + 1 : Nat) : Int) - 1 = (j : Int) := by omega
          rw [ej]
          clear ej
          have hlt : j < len := by omega
          have hcell := hc j hlt
          have hB := byteAt_bounds hb j
          go_wp2
          go_round
          case rel =>
            refine ⟨j, by omega, by go_num, ?_⟩
            have hs := accDown_step hb (j := j) (by rw [HL.out]; exact hlt) (by omega)
            rw [hs]
          case measure => simp only [intOf]; omega

end Go.Proofs.Ybulkucg
