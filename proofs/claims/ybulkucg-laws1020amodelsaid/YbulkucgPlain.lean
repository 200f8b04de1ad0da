/-
  b1020a, THE PLAIN LAW: what 'number' and its re-statement compute, as one plain function over a list of bytes (numbers from 0 to 255). No program in this text.
-/
import Derived.WalkKit
import Derived.Laws.BitsAllLaws
namespace Go.Proofs.Ybulkucg

/-- The number that a row of bytes spells, the least byte first. -/
def leI : List Int → Int
  | [] => 0
  | z :: r => z + 256 * leI r

/-- What both functions answer where the field holds no bits: the first eight bytes, unless a later byte is not zero. -/
def numOut (l : List Int) : Int := if (l.drop 8).all (fun z => z == 0) then leI (l.take 8) else 18446744073709551615

def Bytes (l : List Int) : Prop := ∀ z ∈ l, 0 ≤ z ∧ z ≤ 255

theorem leI_nonneg : ∀ (l : List Int), Bytes l → 0 ≤ leI l
  | [], _ => by simp [leI]
  | z :: r, h => by
    have h1 := h z (by simp)
    have h2 := leI_nonneg r (fun y hy => h y (by simp [hy]))
    simp only [leI]
    omega

theorem leI_lt : ∀ (l : List Int), Bytes l → leI l < 2 ^ (8 * l.length)
  | [], _ => by simp [leI]
  | z :: r, h => by
    have h1 := h z (by simp)
    have h2 := leI_lt r (fun y hy => h y (by simp [hy]))
    have e : (2 : Int) ^ (8 * (z :: r).length) = 256 * 2 ^ (8 * r.length) := by
      rw [List.length_cons, Nat.mul_add, Int.pow_add, Int.mul_comm]
      rfl
    rw [e]
    simp only [leI]
    omega

theorem leI_append : ∀ (l : List Int) (z : Int), leI (l ++ [z]) = leI l + z * 2 ^ (8 * l.length)
  | [], z => by simp [leI]
  | y :: r, z => by
    have h := leI_append r z
    have e : (2 : Int) ^ (8 * (y :: r).length) = 2 ^ (8 * r.length) * 256 := by
      rw [List.length_cons, Nat.mul_add, Int.pow_add]
      rfl
    rw [e]
    simp only [List.cons_append, leI, h]
    rw [Int.mul_add, ← Int.mul_assoc z, Int.mul_comm 256 (z * _)]
    omega

theorem bytes_take {l : List Int} (h : Bytes l) (k : Nat) : Bytes (l.take k) := fun z hz => h z (List.mem_of_mem_take hz)
theorem bytes_drop {l : List Int} (h : Bytes l) (k : Nat) : Bytes (l.drop k) := fun z hz => h z (List.mem_of_mem_drop hz)

theorem bytes_getD {l : List Int} (h : Bytes l) (k : Nat) : 0 ≤ l.getD k 0 ∧ l.getD k 0 ≤ 255 := by
  rw [List.getD_eq_getElem?_getD]
  cases e : l[k]? with
  | none => simp
  | some z => exact h z (List.mem_of_getElem? e)

theorem take_succ' {l : List Int} {k : Nat} (h : k < l.length) : l.take (k + 1) = l.take k ++ [l.getD k 0] := by
  rw [List.take_add_one, List.getD_eq_getElem?_getD, List.getElem?_eq_getElem h]
  rfl

theorem wrap64_id (n : Int) (h₀ : 0 ≤ n) (h₁ : n < 2 ^ 64) : IntKind.u64.wrap n = n := by
  have e : IntKind.u64.wrap n = n % 18446744073709551616 := by simp [IntKind.wrap, IntKind.bits, IntKind.signed]
  rw [e]
  exact Int.emod_eq_of_lt h₀ h₁

theorem two_pow_le {a b : Nat} (h : a ≤ b) : (2 : Int) ^ a ≤ 2 ^ b := by
  have := Nat.pow_le_pow_right (n := 2) (by decide) h
  exact_mod_cast this

/-- 'y | x' where y lies below 2^i and x is a multiple of 2^i. -/
theorem join_low (i : Nat) (y x : Int) (hy₀ : 0 ≤ y) (hy : y < 2 ^ i) (hy₁ : y < 2 ^ 64) (hx₀ : 0 ≤ x) (hx : x % 2 ^ i = 0) (hx₁ : x < 2 ^ 64) : bits .or .u64 y x = y + x := by
  have h := bits_join .u64 64 (by decide) wrap64_id i x y hx₀ hx hx₁ hy₀ hy hy₁
  obtain ⟨a, rfl⟩ := Int.eq_ofNat_of_zero_le hx₀
  obtain ⟨b, rfl⟩ := Int.eq_ofNat_of_zero_le hy₀
  have ha : a < 2 ^ 64 := by exact_mod_cast hx₁
  have hb : b < 2 ^ 64 := by exact_mod_cast hy₁
  rw [(bits_nat .u64 64 (by decide) wrap64_id a b ha hb).2] at h
  rw [(bits_nat .u64 64 (by decide) wrap64_id b a hb ha).2, Nat.or_comm, h]
  omega

/-- One round of 'number', below the eighth byte: 'n |= uint64(b) << (8 * i)'. -/
theorem num_step {l : List Int} (hb : Bytes l) {k : Nat} (hk : k < l.length) (h8 : k < 8) :
    bits .or .u64 (leI (l.take k)) (IntKind.u64.wrap (l.getD k 0 * 2 ^ (8 * k))) = leI (l.take (k + 1)) := by
  have hlen : (l.take k).length = k := by simp; omega
  have n0 := leI_nonneg _ (bytes_take hb k)
  have n1 := leI_lt _ (bytes_take hb k)
  rw [hlen] at n1
  have z := bytes_getD hb k
  have hp : (0 : Int) < 2 ^ (8 * k) := Int.pow_pos (by decide)
  have hlt : l.getD k 0 * 2 ^ (8 * k) < 2 ^ 64 := by
    have a1 : l.getD k 0 * 2 ^ (8 * k) ≤ 255 * 2 ^ (8 * k) := Int.mul_le_mul_of_nonneg_right z.2 (by omega)
    have a2 : (255 : Int) * 2 ^ (8 * k) < 256 * 2 ^ (8 * k) := by omega
    have a3 : (256 : Int) * 2 ^ (8 * k) = 2 ^ (8 + 8 * k) := by rw [Int.pow_add]; rfl
    have a4 : (2 : Int) ^ (8 + 8 * k) ≤ 2 ^ 64 := two_pow_le (by omega)
    omega
  have h0 : 0 ≤ l.getD k 0 * 2 ^ (8 * k) := Int.mul_nonneg z.1 (by omega)
  rw [wrap64_id _ h0 hlt, take_succ' hk, leI_append, hlen]
  have n2 : leI (l.take k) < 2 ^ 64 := by
    have a4 : (2 : Int) ^ (8 * k) ≤ 2 ^ 64 := two_pow_le (by omega)
    omega
  have hm : (l.getD k 0 * 2 ^ (8 * k)) % 2 ^ (8 * k) = 0 := Int.mul_emod_left _ _
  exact join_low (8 * k) _ _ n0 n1 n2 h0 hm hlt

/-- .. and from the eighth on, where the byte is zero. -/
theorem num_skip {n : Int} (h0 : 0 ≤ n) (h1 : n < 2 ^ 64) : bits .or .u64 n 0 = n := by
  have h := join_low 64 n 0 h0 h1 h1 (by decide) (by decide) (by decide)
  omega

/-- One round of the re-statement, from above: 'n = n<<8 | uint64(data[j])'. -/
theorem mod_step {l : List Int} (hb : Bytes l) (h8 : l.length ≤ 8) {j : Nat} (hj : j < l.length) :
    bits .or .u64 (IntKind.u64.wrap (leI (l.drop (j + 1)) * 256)) (l.getD j 0) = leI (l.drop j) := by
  have n0 := leI_nonneg _ (bytes_drop hb (j + 1))
  have n1 := leI_lt _ (bytes_drop hb (j + 1))
  have z := bytes_getD hb j
  have hlen : (l.drop (j + 1)).length = l.length - (j + 1) := by simp
  rw [hlen] at n1
  have n2 : leI (l.drop (j + 1)) < 2 ^ 56 := by
    have a4 : (2 : Int) ^ (8 * (l.length - (j + 1))) ≤ 2 ^ 56 := two_pow_le (by omega)
    omega
  have n3 : leI (l.drop (j + 1)) * 256 < 2 ^ 64 := by omega
  rw [wrap64_id _ (by omega) n3, bits_join .u64 64 (by decide) wrap64_id 8 _ _ (by omega) (by omega) n3 z.1 (by omega) (by omega)]
  have e : l.drop j = l.getD j 0 :: l.drop (j + 1) := by
    rw [List.drop_eq_getElem_cons hj, List.getD_eq_getElem?_getD, List.getElem?_eq_getElem hj]
    rfl
  rw [e]
  simp only [leI]
  omega

/-- The bytes from the eighth up to the k-th are zero. -/
def ZeroTo (l : List Int) (k : Nat) : Prop := ∀ j, 8 ≤ j → j < k → l.getD j 0 = 0

theorem zeroTo_succ {l : List Int} {k : Nat} (h : ZeroTo l k) (hz : 8 ≤ k → l.getD k 0 = 0) : ZeroTo l (k + 1) := by
  intro j h8 hj
  by_cases e : j = k
  · subst e; exact hz h8
  · exact h j h8 (by omega)

theorem numOut_zero {l : List Int} (h : ZeroTo l l.length) : numOut l = leI (l.take 8) := by
  unfold numOut
  rw [if_pos]
  rw [List.all_eq_true]
  intro z hz
  obtain ⟨i, hi, rfl⟩ := List.getElem_of_mem hz
  simp at hi
  have := h (8 + i) (by omega) (by omega)
  rw [List.getD_eq_getElem?_getD, List.getElem?_eq_getElem (by omega)] at this
  simpa using this

theorem numOut_big {l : List Int} {k : Nat} (h8 : 8 ≤ k) (hz : l.getD k 0 ≠ 0) : numOut l = 18446744073709551615 := by
  unfold numOut
  rw [if_neg]
  intro h
  rw [List.all_eq_true] at h
  have hk : k < l.length := by
    rcases Nat.lt_or_ge k l.length with h | h
    · exact h
    · exact absurd (by simp [List.getD_eq_getElem?_getD, h]) hz
  have hm : l.getD k 0 ∈ l.drop 8 := by
    rw [List.getD_eq_getElem?_getD, List.getElem?_eq_getElem hk]
    refine List.mem_of_getElem? (i := k - 8) ?_
    rw [List.getElem?_drop, show 8 + (k - 8) = k by omega, List.getElem?_eq_getElem hk]
    rfl
  exact hz (by simpa using h _ hm)

/-- The k-th byte: under a name, so that no walk rewrites it. -/
def byteAt (l : List Int) (k : Nat) : Int := l.getD k 0
theorem byteAt_bounds {l : List Int} (h : Bytes l) (k : Nat) : 0 ≤ byteAt l k ∧ byteAt l k ≤ 255 := bytes_getD h k

/-- What 'number' has gathered behind k bytes. -/
def acc (l : List Int) (k : Nat) : Int := leI ((l.take 8).take k)

theorem acc_zero (l : List Int) : acc l 0 = 0 := rfl
theorem acc_bounds {l : List Int} (hb : Bytes l) (k : Nat) : 0 ≤ acc l k ∧ acc l k < 2 ^ 64 := by
  refine ⟨leI_nonneg _ (bytes_take (bytes_take hb 8) k), ?_⟩
  have n1 := leI_lt _ (bytes_take (bytes_take hb 8) k)
  have a4 : (2 : Int) ^ (8 * ((l.take 8).take k).length) ≤ 2 ^ 64 := two_pow_le (by simp; omega)
  unfold acc
  omega
theorem acc_low {l : List Int} (hb : Bytes l) {k : Nat} (hk : k < l.length) (h8 : k < 8) :
    bits .or .u64 (acc l k) (IntKind.u64.wrap (byteAt l k * 2 ^ (8 * k))) = acc l (k + 1) := by
  have e : (l.take 8).getD k 0 = l.getD k 0 := by simp [List.getD_eq_getElem?_getD, h8]
  have h := num_step (bytes_take hb 8) (k := k) (by simp; omega) h8
  rw [e] at h
  exact h
theorem acc_high {l : List Int} (hb : Bytes l) {k : Nat} (h8 : 8 ≤ k) : bits .or .u64 (acc l k) 0 = acc l (k + 1) := by
  rw [num_skip (acc_bounds hb k).1 (acc_bounds hb k).2]
  unfold acc
  rw [List.take_take, List.take_take, Nat.min_eq_right h8, Nat.min_eq_right (by omega)]
/-- 'x << (8 * k)' of a uint64, whatever k. -/
def shl8 (x : Int) (k : Nat) : Int := IntKind.u64.wrap (x * 2 ^ min (8 * k) 64)
theorem run_shl8 (P : Program) (x : Int) (k : Nat) (w : World) : Sem.run P (Op.shift .shl .u64 x .i64 (8 * (k : Int))) w = .ok (.int .u64 (shl8 x k)) w := by
  have h : ¬ (8 * (k : Int)) < 0 := by omega
  have e : (8 * (k : Int)).toNat = 8 * k := by omega
  simp [Op.shift, h, shl8, IntKind.bits, e]
theorem shl8_zero (k : Nat) : shl8 0 k = 0 := by
  unfold shl8
  rw [Int.zero_mul]
  decide
theorem acc_all {l : List Int} {k : Nat} (hk : l.length ≤ k) : acc l k = leI (l.take 8) := by
  unfold acc
  rw [List.take_of_length_le (by simp; omega)]

/-- What the re-statement has gathered down to the j-th byte. -/
def accDown (l : List Int) (j : Nat) : Int := leI ((l.take 8).drop j)
theorem accDown_start (l : List Int) {j : Nat} (h : min 8 l.length ≤ j) : accDown l j = 0 := by
  unfold accDown
  rw [List.drop_of_length_le (by simp; omega)]
  rfl
theorem accDown_zero (l : List Int) : accDown l 0 = leI (l.take 8) := rfl
theorem accDown_step {l : List Int} (hb : Bytes l) {j : Nat} (hj : j < l.length) (h8 : j < 8) :
    bits .or .u64 (IntKind.u64.wrap (accDown l (j + 1) * 256)) (byteAt l j) = accDown l j := by
  have e : (l.take 8).getD j 0 = byteAt l j := by simp [byteAt, List.getD_eq_getElem?_getD, h8]
  have h := mod_step (bytes_take hb 8) (by simp; omega) (j := j) (by simp; omega)
  rw [e] at h
  exact h

end Go.Proofs.Ybulkucg
