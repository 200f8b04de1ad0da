/-
  b1021a: THE CONTRACTS OF THE TWO LEAVES: '(encoding/binary.littleEndian).Uint64' (function 7) at eight bytes or more; 'sonet.zzs1021cxor' (function 6) at every row of bytes.
-/
import Derived.Test.YbulkucuRows
import Derived.Test.YbulkucuPlain
import Derived.WalkKit
import Derived.Lib.EndianBits
import Derived.RegionTactic
import Derived.Deep.Draws
import Derived.Deep.QuietTactic
import Derived.BigQuiet
namespace Go.Proofs.Ybulkucu
open Go.RowKit

set_option maxHeartbeats 4000000 in
set_option maxRecDepth 100000 in
/-- binary.LittleEndian.Uint64: the word that the first eight bytes spell. The receiver, an empty struct, is laid in a new block without cells; the order of the reads is drawn. -/
theorem uint64_any (g o n c : Nat) (b0 b1 b2 b3 b4 b5 b6 b7 : Nat) (w : World) (hn : 8 ≤ n)
    (h0 : b0 < 256) (h1 : b1 < 256) (h2 : b2 < 256) (h3 : b3 < 256) (h4 : b4 < 256) (h5 : b5 < 256) (h6 : b6 < 256) (h7 : b7 < 256)
    (c0 : w.cell? ⟨g, o, none⟩ = some (.int .u8 b0)) (c1 : w.cell? ⟨g, o + 1, none⟩ = some (.int .u8 b1)) (c2 : w.cell? ⟨g, o + 2, none⟩ = some (.int .u8 b2)) (c3 : w.cell? ⟨g, o + 3, none⟩ = some (.int .u8 b3)) (c4 : w.cell? ⟨g, o + 4, none⟩ = some (.int .u8 b4)) (c5 : w.cell? ⟨g, o + 5, none⟩ = some (.int .u8 b5)) (c6 : w.cell? ⟨g, o + 6, none⟩ = some (.int .u8 b6)) (c7 : w.cell? ⟨g, o + 7, none⟩ = some (.int .u8 b7)) :
    Calls Yba.prog 7 #[.agg #[], .slice (some ⟨g, o, none⟩) n c] w fun e w' => e = .returned (.int .u64 (le8 b0 b1 b2 b3 b4 b5 b6 b7)) ∧ Below w.heap.size w w' := by
  have old : ∀ {a : Addr} {v : Value}, w.cell? a = some v → (w.alloc (.cells #[] 28)).cell? a = some v := fun {a v} h => (World.cell?_alloc_lt w _ a (World.block_lt_of_cell? w a h)).trans h
  have d0 := old c0
  have d1 := old c1
  have d2 := old c2
  have d3 := old c3
  have d4 := old c4
  have d5 := old c5
  have d6 := old c6
  have d7 := old c7
  clear old
  have hv : Hid (((le8 b0 b1 b2 b3 b4 b5 b6 b7 : Nat) : Int) = (b0 : Int) + (b1 : Int) * 256 + (b2 : Int) * 65536 + (b3 : Int) * 16777216 + (b4 : Int) * 4294967296 + (b5 : Int) * 1099511627776 + (b6 : Int) * 281474976710656 + (b7 : Int) * 72057594037927936) := by
    show _ = _
    unfold le8
    omega
  have q0 : 0 < n := by omega
  have q1 : (1 : Int) < (n : Int) := by omega
  have q2 : (2 : Int) < (n : Int) := by omega
  have q3 : (3 : Int) < (n : Int) := by omega
  have q4 : (4 : Int) < (n : Int) := by omega
  have q5 : (5 : Int) < (n : Int) := by omega
  have q6 : (6 : Int) < (n : Int) := by omega
  have q7 : (7 : Int) < (n : Int) := by omega
  go_enter Yba.func7, Yba.ntmps7
  go_wp2
  go_quiet (fail)
  go_wp2
  go_ret
  refine ⟨?_, ((Below.refl _ w).alloc (Nat.le_refl _) _).trans ⟨rfl, rfl, rfl, Nat.le_refl _, fun _ _ => rfl⟩⟩
  simp (disch := omega) only [u64_or8, u64_or16, u64_or24, u64_or32, u64_or40, u64_or48, u64_or56]
  rw [hv.out]
  rfl

/-- The same, at place q of a row of bytes. -/
theorem word_at (x : Nat → Nat) (b off len q n c : Nat) (w : World) (hx : ∀ j, x j < 256) (hc : ∀ j, j < len → w.cell? ⟨b, off + j, none⟩ = some (.int .u8 (x j : Nat))) (hq : q + 8 ≤ len) (hn : 8 ≤ n) :
    Calls Yba.prog 7 #[.agg #[], .slice (some ⟨b, off + q, none⟩) n c] w fun e w' => e = .returned (.int .u64 (wordAt x q)) ∧ Below w.heap.size w w' :=
  uint64_any b (off + q) n c (x q) (x (q + 1)) (x (q + 2)) (x (q + 3)) (x (q + 4)) (x (q + 5)) (x (q + 6)) (x (q + 7)) w hn (hx _) (hx _) (hx _) (hx _) (hx _) (hx _) (hx _) (hx _)
    (hc q (by omega)) (hc (q + 1) (by omega)) (hc (q + 2) (by omega)) (hc (q + 3) (by omega)) (hc (q + 4) (by omega)) (hc (q + 5) (by omega)) (hc (q + 6) (by omega)) (hc (q + 7) (by omega))

theorem xor_empty (a : Option Addr) (cap : Nat) (w : World) :
    Calls Yba.prog 6 #[.slice a 0 cap] w fun e w' => e = .returned (.int .u8 0) ∧ w' = w := by
  go_enter Yba.func6, Yba.ntmps6
  go_wp2
  refine wp_loop_rounds 1 ?_
  rw [rounds_succ]
  go_wp2
  go_ret
  exact ⟨rfl, rfl⟩

theorem xor_any (x : Nat → Nat) (b off len cap : Nat) (w : World) (hx : ∀ j, x j < 256) (hbig : len ≤ 4096) (hc : ∀ j, j < len → w.cell? ⟨b, off + j, none⟩ = some (.int .u8 (x j : Nat))) :
    Calls Yba.prog 6 #[.slice (some ⟨b, off, none⟩) len cap] w fun e w' => e = .returned (.int .u8 (xorTo x len)) ∧ w' = w := by
  go_enter Yba.func6, Yba.ntmps6
  go_wp2
  go_loop [3, 4] (fun v i => ∃ k : Nat, k ≤ len ∧ i = .int .i64 k ∧ v = .int .u8 (xorTo x k)) (fun _ i => len - (intOf i).toNat)
  case atStart => exact ⟨0, Nat.zero_le _, rfl, rfl⟩
  case round =>
    obtain ⟨k, hk, rfl, rfl⟩ := hrel
    have hcell : k < len → w.cell? ⟨b, off + k, none⟩ = some (.int .u8 (x k : Nat)) := fun h => hc k h
    go_wp2
    · have hlt : k < len := by assumption
      go_round
      case rel =>
        refine ⟨k + 1, by omega, by go_num, ?_⟩
        rw [xor_u8 _ _ (xorTo_lt x hx k) (hx k)]
        rfl
      case measure => simp only [intOf]; omega
    · have hge : ¬ k < len := by assumption
      have hkl : k = len := by omega
      go_ret
      refine ⟨?_, rfl⟩
      rw [← hkl]
      rfl

end Go.Proofs.Ybulkucu
