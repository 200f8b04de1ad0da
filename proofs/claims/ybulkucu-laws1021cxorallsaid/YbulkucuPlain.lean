/-
  b1021a, THE PLAIN LAW: the XOR of a row of bytes, gathered a byte at a time, is what the eight-byte words fold to. No program in this text.
-/
import Derived.WalkKit
namespace Go.Proofs.Ybulkucu

/-- The XOR of the first k bytes. -/
def xorTo (x : Nat → Nat) : Nat → Nat
  | 0 => 0
  | k + 1 => xorTo x k ^^^ x k

/-- The word that eight bytes spell, the least first. -/
def le8 (x0 x1 x2 x3 x4 x5 x6 x7 : Nat) : Nat :=
  x0 + x1 * 256 + x2 * 65536 + x3 * 16777216 + x4 * 4294967296 + x5 * 1099511627776 + x6 * 281474976710656 + x7 * 72057594037927936
def wordAt (x : Nat → Nat) (q : Nat) : Nat := le8 (x q) (x (q + 1)) (x (q + 2)) (x (q + 3)) (x (q + 4)) (x (q + 5)) (x (q + 6)) (x (q + 7))

/-- 'x ^= x >> n'. -/
def shx (n v : Nat) : Nat := v ^^^ (v >>> n)
/-- What bip8 makes of a word: its eight bytes folded into one. -/
def fold8 (v : Nat) : Nat := shx 8 (shx 16 (shx 32 v)) % 256

theorem xorTo_lt (x : Nat → Nat) (hx : ∀ j, x j < 256) : ∀ k, xorTo x k < 256
  | 0 => by simp [xorTo]
  | k + 1 => Nat.xor_lt_two_pow (n := 8) (xorTo_lt x hx k) (hx k)

theorem shx_xor (n a b : Nat) : shx n (a ^^^ b) = shx n a ^^^ shx n b := by
  unfold shx
  rw [Nat.shiftRight_xor_distrib]
  ac_rfl

theorem fold8_xor (a b : Nat) : fold8 (a ^^^ b) = fold8 a ^^^ fold8 b := by
  unfold fold8
  rw [shx_xor, shx_xor, shx_xor]
  exact Nat.xor_mod_two_pow (n := 8)

theorem fold8_zero : fold8 0 = 0 := rfl

theorem fold8_lt (v : Nat) : fold8 v < 256 := Nat.mod_lt _ (by decide)

theorem shx_lt {n v : Nat} (h : v < 2 ^ 64) : shx n v < 2 ^ 64 :=
  Nat.xor_lt_two_pow h (Nat.lt_of_le_of_lt (by rw [Nat.shiftRight_eq_div_pow]; exact Nat.div_le_self _ _) h)

theorem le8_lt {x0 x1 x2 x3 x4 x5 x6 x7 : Nat} (h0 : x0 < 256) (h1 : x1 < 256) (h2 : x2 < 256) (h3 : x3 < 256) (h4 : x4 < 256) (h5 : x5 < 256) (h6 : x6 < 256) (h7 : x7 < 256) :
    le8 x0 x1 x2 x3 x4 x5 x6 x7 < 2 ^ 64 := by
  unfold le8
  omega

/-- Byte i of a word. -/
def byteOf (v i : Nat) : Nat := v >>> (8 * i) % 256

theorem fold8_bytes (v : Nat) : fold8 v = byteOf v 0 ^^^ byteOf v 1 ^^^ byteOf v 2 ^^^ byteOf v 3 ^^^ byteOf v 4 ^^^ byteOf v 5 ^^^ byteOf v 6 ^^^ byteOf v 7 := by
  have hm : ∀ a b : Nat, (a ^^^ b) % 256 = a % 256 ^^^ b % 256 := fun a b => Nat.xor_mod_two_pow (n := 8)
  unfold fold8 shx byteOf
  simp only [Nat.shiftRight_xor_distrib, ← Nat.shiftRight_add, hm, Nat.reduceAdd, Nat.reduceMul]
  rw [show v >>> 0 = v from rfl]
  ac_rfl

theorem fold8_le8 {x0 x1 x2 x3 x4 x5 x6 x7 : Nat} (h0 : x0 < 256) (h1 : x1 < 256) (h2 : x2 < 256) (h3 : x3 < 256) (h4 : x4 < 256) (h5 : x5 < 256) (h6 : x6 < 256) (h7 : x7 < 256) :
    fold8 (le8 x0 x1 x2 x3 x4 x5 x6 x7) = x0 ^^^ x1 ^^^ x2 ^^^ x3 ^^^ x4 ^^^ x5 ^^^ x6 ^^^ x7 := by
  rw [fold8_bytes]
  have e0 : byteOf (le8 x0 x1 x2 x3 x4 x5 x6 x7) 0 = x0 := by unfold byteOf le8; rw [Nat.shiftRight_eq_div_pow]; omega
  have e1 : byteOf (le8 x0 x1 x2 x3 x4 x5 x6 x7) 1 = x1 := by unfold byteOf le8; rw [Nat.shiftRight_eq_div_pow]; omega
  have e2 : byteOf (le8 x0 x1 x2 x3 x4 x5 x6 x7) 2 = x2 := by unfold byteOf le8; rw [Nat.shiftRight_eq_div_pow]; omega
  have e3 : byteOf (le8 x0 x1 x2 x3 x4 x5 x6 x7) 3 = x3 := by unfold byteOf le8; rw [Nat.shiftRight_eq_div_pow]; omega
  have e4 : byteOf (le8 x0 x1 x2 x3 x4 x5 x6 x7) 4 = x4 := by unfold byteOf le8; rw [Nat.shiftRight_eq_div_pow]; omega
  have e5 : byteOf (le8 x0 x1 x2 x3 x4 x5 x6 x7) 5 = x5 := by unfold byteOf le8; rw [Nat.shiftRight_eq_div_pow]; omega
  have e6 : byteOf (le8 x0 x1 x2 x3 x4 x5 x6 x7) 6 = x6 := by unfold byteOf le8; rw [Nat.shiftRight_eq_div_pow]; omega
  have e7 : byteOf (le8 x0 x1 x2 x3 x4 x5 x6 x7) 7 = x7 := by unfold byteOf le8; rw [Nat.shiftRight_eq_div_pow]; omega
  rw [e0, e1, e2, e3, e4, e5, e6, e7]

theorem wordAt_lt (x : Nat → Nat) (hx : ∀ j, x j < 256) (q : Nat) : wordAt x q < 2 ^ 64 := le8_lt (hx _) (hx _) (hx _) (hx _) (hx _) (hx _) (hx _) (hx _)

/-- Eight bytes more: one word's fold more. -/
theorem xorTo_word (x : Nat → Nat) (hx : ∀ j, x j < 256) (q : Nat) : xorTo x (q + 8) = xorTo x q ^^^ fold8 (wordAt x q) := by
  unfold wordAt
  rw [fold8_le8 (hx _) (hx _) (hx _) (hx _) (hx _) (hx _) (hx _) (hx _)]
  simp only [xorTo]
  ac_rfl

/-- The first loop's law: what the four words hold folds to the XOR of the bytes so far. -/
def Folds (x : Nat → Nat) (q a b c d : Nat) : Prop := fold8 (a ^^^ b ^^^ c ^^^ d) = xorTo x q

theorem folds_start (x : Nat → Nat) : Folds x 0 0 0 0 0 := rfl
theorem folds_step (x : Nat → Nat) (hx : ∀ j, x j < 256) {q a b c d : Nat} (h : Folds x q a b c d) :
    Folds x (q + 32) (a ^^^ wordAt x q) (b ^^^ wordAt x (q + 8)) (c ^^^ wordAt x (q + 16)) (d ^^^ wordAt x (q + 24)) := by
  unfold Folds at h ⊢
  simp only [fold8_xor] at h ⊢
  rw [show q + 32 = q + 24 + 8 from rfl, xorTo_word x hx, show q + 24 = q + 16 + 8 from rfl, xorTo_word x hx, show q + 16 = q + 8 + 8 from rfl, xorTo_word x hx, xorTo_word x hx, ← h]
  ac_rfl
/-- The second loop's. -/
def Fold (x : Nat → Nat) (q v : Nat) : Prop := fold8 v = xorTo x q
theorem fold_step (x : Nat → Nat) (hx : ∀ j, x j < 256) {q v : Nat} (h : Fold x q v) : Fold x (q + 8) (v ^^^ wordAt x q) := by
  unfold Fold at h ⊢
  rw [fold8_xor, xorTo_word x hx, h]

theorem xor_u64 (a b : Nat) (ha : a < 2 ^ 64) (hb : b < 2 ^ 64) : bits .xor .u64 (a : Int) (b : Int) = ((a ^^^ b : Nat) : Int) := by
  have hx : a ^^^ b < 2 ^ 64 := Nat.xor_lt_two_pow ha hb
  have o : ∀ n : Nat, n < 2 ^ 64 → (BitVec.ofInt 64 (n : Int)).toNat = n := fun n h => by
    rw [BitVec.ofInt_natCast, BitVec.toNat_ofNat]; exact Nat.mod_eq_of_lt h
  show IntKind.u64.wrap ((BitVec.ofInt 64 (a : Int) ^^^ BitVec.ofInt 64 (b : Int)).toNat : Int) = _
  rw [BitVec.toNat_xor, o a ha, o b hb]
  have e : ∀ n : Int, IntKind.u64.wrap n = n % 18446744073709551616 := fun n => by simp [IntKind.wrap, IntKind.bits, IntKind.signed]
  rw [e]
  omega
theorem xor_u8 (a b : Nat) (ha : a < 256) (hb : b < 256) : bits .xor .u8 (a : Int) (b : Int) = ((a ^^^ b : Nat) : Int) := by
  have hx : a ^^^ b < 2 ^ 8 := Nat.xor_lt_two_pow ha hb
  have o : ∀ n : Nat, n < 256 → (BitVec.ofInt 8 (n : Int)).toNat = n := fun n h => by
    rw [BitVec.ofInt_natCast, BitVec.toNat_ofNat]; exact Nat.mod_eq_of_lt h
  show IntKind.u8.wrap ((BitVec.ofInt 8 (a : Int) ^^^ BitVec.ofInt 8 (b : Int)).toNat : Int) = _
  rw [BitVec.toNat_xor, o a ha, o b hb]
  have e : ∀ n : Int, IntKind.u8.wrap n = n % 256 := fun n => by simp [IntKind.wrap, IntKind.bits, IntKind.signed]
  rw [e]
  omega

end Go.Proofs.Ybulkucu
