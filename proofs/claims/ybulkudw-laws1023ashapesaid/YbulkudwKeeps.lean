/-
  b1023a: THE WALK OF 'timetext.keepsToRFC3339' (function 6), at a text of 20 to 1024 bytes; what it answers, as a plain function over the bytes.
-/
import Derived.Test.YbulkudwRows
import Derived.WalkKit
import Derived.WalkSpells
import Derived.WalkLawsBesides
import Derived.Laws.BytesArg
import Derived.Lib.Strings
namespace Go.Proofs.Ybulkudw
open Go.RowKit

/-- What the function answers, in the walk's own words. -/
def keepsS (s : ByteArray) (h : 20 ≤ s.size) : Bool :=
  if ((s[13]'(by omega)).toNat : Int) ≠ 58 ∨ ((s[19]'(by omega)).toNat : Int) = 44 then false
  else if ((s[s.size - 1]'(by omega)).toNat : Int) = 90 then true
  else (Op.bytesLess ((s.extract (s.size - 5) s.size).extract 0 2).toList [50, 51] || ((s.extract (s.size - 5) s.size).extract 0 2).toList == [50, 51]) &&
    decide ((((s.extract (s.size - 5) s.size)[3]'(by simp [ByteArray.size_extract]; omega)).toNat : Int) ≤ 53)

theorem keeps_gen (s : ByteArray) (w : World) (h20 : 20 ≤ s.size) (hbig : s.size ≤ 1024) :
    Calls Yba.prog 6 #[.string s] w fun e w' => e = .returned (.bool (keepsS s h20)) ∧ w' = w := by
  have h13 : (13 : Int) < (s.size : Int) := by omega
  have h19 : (19 : Int) < (s.size : Int) := by omega
  go_enter Yba.func6, Yba.ntmps6
  go_wp2
  · have t13 : ((s[13]'(by omega)).toNat : Int) = 58 := by assumption
    have t19 : (((s[19]'(by omega)).toNat : Int) == 44) = true := by assumption
    go_ret
    refine ⟨?_, rfl⟩
    have e : keepsS s h20 = false := by
      unfold keepsS
      rw [if_pos (.inr (by simpa using t19))]
    rw [e]
    rfl
  · have t13 : ((s[13]'(by omega)).toNat : Int) = 58 := by assumption
    have t19 : (((s[19]'(by omega)).toNat : Int) == 44) = false := by assumption
    have tz : (((s[s.size - 1]'(by omega)).toNat : Int) == 90) = true := by assumption
    go_ret
    refine ⟨?_, rfl⟩
    have e : keepsS s h20 = true := by
      unfold keepsS
      rw [if_neg (by simp [t13] at t19 ⊢; exact t19), if_pos (by simpa using tz)]
    rw [e]
    rfl
  · have t13 : ((s[13]'(by omega)).toNat : Int) = 58 := by assumption
    have t19 : (((s[19]'(by omega)).toNat : Int) == 44) = false := by assumption
    have tz : (((s[s.size - 1]'(by omega)).toNat : Int) == 90) = false := by assumption
    go_ret
    refine ⟨?_, rfl⟩
    unfold keepsS
    rw [if_neg (by simp [t13] at t19 ⊢; exact t19), if_neg (by simpa using tz)]
    rfl
  · have t13 : ((s[13]'(by omega)).toNat : Int) = 58 := by assumption
    have t19 : (((s[19]'(by omega)).toNat : Int) == 44) = false := by assumption
    have tz : (((s[s.size - 1]'(by omega)).toNat : Int) == 90) = false := by assumption
    have tl : ¬ (Op.bytesLess ((s.extract (s.size - 5) s.size).extract 0 2).toList [50, 51] = true ∨ ((s.extract (s.size - 5) s.size).extract 0 2).toList = [50, 51]) := by assumption
    go_ret
    refine ⟨?_, rfl⟩
    have e : keepsS s h20 = false := by
      unfold keepsS
      rw [if_neg (by simp [t13] at t19 ⊢; exact t19), if_neg (by simpa using tz)]
      simp at tl
      simp [tl]
    rw [e]
    rfl
  · have t13 : ¬ ((s[13]'(by omega)).toNat : Int) = 58 := by assumption
    go_ret
    refine ⟨?_, rfl⟩
    have e : keepsS s h20 = false := by
      unfold keepsS
      rw [if_pos (.inl t13)]
    rw [e]
    rfl

/-- A byte of the text that a row of numbers spells. -/
theorem str_at (xs : List Int) (hb : ∀ z ∈ xs, 0 ≤ z ∧ z ≤ 255) (i : Nat) (h : i < (strOfNums xs).size) : (((strOfNums xs)[i]'h).toNat : Int) = xs.getD i 0 := by
  have hi : i < xs.length := by rw [strOfNums_size] at h; exact h
  have e : (strOfNums xs)[i]'h = UInt8.ofNat (xs[i].toNat) := by
    show (strOfNums xs).data[i] = _
    simp [strOfNums]
  have hz := hb xs[i] (List.getElem_mem hi)
  rw [e, List.getD_eq_getElem?_getD, List.getElem?_eq_getElem hi]
  simp
  omega

/-- The two digits of the hours at most 23, as Go compares texts. -/
def le23 (c d : Int) : Bool := decide (c < 50) || (c == 50 && decide (d ≤ 51))

/-- What the function answers, of a row of numbers. -/
def keepsOf (xs : List Int) : Bool :=
  if xs.getD 13 0 ≠ 58 ∨ xs.getD 19 0 = 44 then false
  else if xs.getD (xs.length - 1) 0 = 90 then true
  else le23 (xs.getD (xs.length - 5) 0) (xs.getD (xs.length - 4) 0) && decide (xs.getD (xs.length - 2) 0 ≤ 53)

theorem byte_nat (c : Int) (hc : 0 ≤ c ∧ c ≤ 255) : (UInt8.ofNat c.toNat).toNat = c.toNat := by
  simp
  omega

theorem less23 (c d : Int) (hc : 0 ≤ c ∧ c ≤ 255) (hd : 0 ≤ d ∧ d ≤ 255) :
    (Op.bytesLess [UInt8.ofNat c.toNat, UInt8.ofNat d.toNat] [50, 51] || [UInt8.ofNat c.toNat, UInt8.ofNat d.toNat] == [50, 51]) = le23 c d := by
  have ec := byte_nat c hc
  have ed := byte_nat d hd
  generalize UInt8.ofNat c.toNat = C at ec ⊢
  generalize UInt8.ofNat d.toNat = D at ed ⊢
  have l1 : (decide (C < 50)) = decide (c < 50) := by
    rw [decide_eq_decide, UInt8.lt_iff_toNat_lt, ec]
    show c.toNat < 50 ↔ _
    omega
  have l2 : (C == 50) = (c == 50) := by
    rw [Bool.eq_iff_iff, beq_iff_eq, beq_iff_eq, ← UInt8.toNat_inj, ec]
    show c.toNat = 50 ↔ _
    omega
  have l3 : (decide (D < 51)) = decide (d < 51) := by
    rw [decide_eq_decide, UInt8.lt_iff_toNat_lt, ed]
    show d.toNat < 51 ↔ _
    omega
  have l4 : (D == 51) = (d == 51) := by
    rw [Bool.eq_iff_iff, beq_iff_eq, beq_iff_eq, ← UInt8.toNat_inj, ed]
    show d.toNat = 51 ↔ _
    omega
  have e1 : ([C, D] == [50, 51]) = ((C == 50) && (D == 51)) := by simp
  have e2 : Op.bytesLess [C, D] [50, 51] = (decide (C < 50) || (C == 50 && (decide (D < 51) || (D == 51 && false)))) := rfl
  rw [e1, e2, l1, l2, l3, l4]
  unfold le23
  have l5 : decide (d ≤ 51) = (decide (d < 51) || d == 51) := by
    rw [Bool.eq_iff_iff]
    simp
    omega
  rw [l5]
  cases decide (c < 50) <;> cases (c == 50) <;> cases decide (d < 51) <;> cases (d == 51) <;> rfl

theorem two_of (xs : List Int) (h5 : 5 ≤ xs.length) : ((xs.drop (xs.length - 5)).take 5).take 2 = [xs.getD (xs.length - 5) 0, xs.getD (xs.length - 4) 0] := by
  rw [List.take_take, show min 2 5 = 2 from rfl]
  have g1 : xs.length - 5 < xs.length := by omega
  have g2 : xs.length - 5 + 1 < xs.length := by omega
  rw [List.drop_eq_getElem_cons g1, List.drop_eq_getElem_cons g2]
  simp only [List.take_succ_cons, List.take_zero]
  rw [List.getD_eq_getElem?_getD, List.getD_eq_getElem?_getD, List.getElem?_eq_getElem g1, show xs.length - 4 = xs.length - 5 + 1 by omega, List.getElem?_eq_getElem g2]
  rfl

theorem nums_list (xs : List Int) : (strOfNums xs).data.toList = xs.map (fun n => UInt8.ofNat n.toNat) := rfl

theorem getD_mem {xs : List Int} (hb : ∀ z ∈ xs, 0 ≤ z ∧ z ≤ 255) (i : Nat) : 0 ≤ xs.getD i 0 ∧ xs.getD i 0 ≤ 255 := by
  rw [List.getD_eq_getElem?_getD]
  cases e : xs[i]? with
  | none => simp
  | some z => exact hb z (List.mem_of_getElem? e)

theorem keepsS_nums (xs : List Int) (hb : ∀ z ∈ xs, 0 ≤ z ∧ z ≤ 255) (h20 : 20 ≤ (strOfNums xs).size) : keepsS (strOfNums xs) h20 = keepsOf xs := by
  have hs := strOfNums_size xs
  have h5 : 5 ≤ xs.length := by omega
  have e1 := str_at xs hb 13 (by omega)
  have e2 := str_at xs hb 19 (by omega)
  have e3 := str_at xs hb ((strOfNums xs).size - 1) (by omega)
  have e4 : ((((strOfNums xs).extract ((strOfNums xs).size - 5) (strOfNums xs).size)[3]'(by simp [ByteArray.size_extract]; omega)).toNat : Int) = xs.getD (xs.length - 2) 0 := by
    have h := str_at xs hb ((strOfNums xs).size - 5 + 3) (by omega)
    have e : ((strOfNums xs).extract ((strOfNums xs).size - 5) (strOfNums xs).size)[3]'(by simp [ByteArray.size_extract]; omega) = (strOfNums xs)[(strOfNums xs).size - 5 + 3]'(by omega) := by
      simp [ByteArray.getElem_extract]
    rw [e, h, hs]
    congr 1
    omega
  have e5 : (((strOfNums xs).extract ((strOfNums xs).size - 5) (strOfNums xs).size).extract 0 2).toList = [UInt8.ofNat (xs.getD (xs.length - 5) 0).toNat, UInt8.ofNat (xs.getD (xs.length - 4) 0).toNat] := by
    rw [Lib.extract_toList, Lib.extract_data, nums_list, hs, List.drop_zero, show xs.length - (xs.length - 5) = 5 by omega, ← List.map_drop, ← List.map_take, ← List.map_take, show 2 - 0 = 2 from rfl, two_of xs h5]
    rfl
  unfold keepsS keepsOf
  rw [e1, e2, e3, e4, e5, less23 _ _ (getD_mem hb _) (getD_mem hb _), hs]

theorem keeps_nums (xs : List Int) (hb : ∀ z ∈ xs, 0 ≤ z ∧ z ≤ 255) (h20 : 20 ≤ xs.length) (hbig : xs.length ≤ 100) (w : World) :
    Calls Yba.prog 6 #[.string (strOfNums xs)] w fun e w' => e = .returned (.bool (keepsOf xs)) ∧ w' = w := by
  have hs := strOfNums_size xs
  have h20' : 20 ≤ (strOfNums xs).size := by omega
  have h := keeps_gen (strOfNums xs) w h20' (by omega)
  rw [keepsS_nums xs hb h20'] at h
  exact h

end Go.Proofs.Ybulkudw
