/-
  b1023a, THE PLAIN LAW OF 'LawS1023AShape': the text that is built, piece by piece, and what keepsToRFC3339 answers of it. No walk in this text.
-/
import Derived.Test.YbulkudwKeeps
namespace Go.Proofs.Ybulkudw

/-- The separator behind the hour. -/
def sepOf (a : Int) : Int := if a % 3 = 0 then 58 else if a % 3 = 1 then 46 else 48
/-- Date, hour, separator, minutes and seconds: 19 bytes. -/
def head (d1 d2 sep : Int) : List Int := [50, 48, 48, 54, 45, 48, 49, 45, 48, 50, 84] ++ [d1, d2] ++ [sep] ++ [48, 52, 58, 48, 53]
/-- The digits 0, 1, 2 .. of the fraction. -/
def digitsTo : Nat → List Int
  | 0 => []
  | n + 1 => digitsTo n ++ [48 + (n : Int)]
/-- The fraction, if any. -/
def frac (k : Int) (n : Nat) : List Int := if k = 0 then [] else (if k = 1 then [46] else [44]) ++ digitsTo n
/-- The zone. -/
def zone (z c1 c2 c3 c4 : Int) : List Int := if z = 0 then [90] else (if z = 1 then [43] else [45]) ++ [c1, c2, 58, c3, c4]
/-- The law's own statement. -/
def wantOf (sep k z off om : Int) : Bool := (sep == 58) && (k != 2) && ((z == 0) || (decide (off ≤ 23) && decide (om ≤ 5)))

theorem digitsTo_length : ∀ n, (digitsTo n).length = n
  | 0 => rfl
  | n + 1 => by simp [digitsTo, digitsTo_length n]
theorem digitsTo_bytes : ∀ n, n ≤ 9 → ∀ c ∈ digitsTo n, 0 ≤ c ∧ c ≤ 255
  | 0, _ => by simp [digitsTo]
  | n + 1, h => by
    intro c hc
    simp only [digitsTo, List.mem_append, List.mem_singleton] at hc
    rcases hc with hc | rfl
    · exact digitsTo_bytes n (by omega) c hc
    · omega

theorem frac_length (k : Int) (n : Nat) : (frac k n).length ≤ n + 1 := by
  unfold frac
  split
  · simp
  · split <;> simp [digitsTo_length]
theorem zone_length (z c1 c2 c3 c4 : Int) : 1 ≤ (zone z c1 c2 c3 c4).length ∧ (zone z c1 c2 c3 c4).length ≤ 6 := by
  unfold zone
  split
  · simp
  · split <;> simp

theorem text_bytes {d1 d2 sep k z c1 c2 c3 c4 : Int} {n : Nat} (hn : n ≤ 9) (h1 : 0 ≤ d1 ∧ d1 ≤ 255) (h2 : 0 ≤ d2 ∧ d2 ≤ 255) (hs : 0 ≤ sep ∧ sep ≤ 255)
    (g1 : 0 ≤ c1 ∧ c1 ≤ 255) (g2 : 0 ≤ c2 ∧ c2 ≤ 255) (g3 : 0 ≤ c3 ∧ c3 ≤ 255) (g4 : 0 ≤ c4 ∧ c4 ≤ 255) :
    ∀ c ∈ head d1 d2 sep ++ frac k n ++ zone z c1 c2 c3 c4, 0 ≤ c ∧ c ≤ 255 := by
  intro c hc
  rw [List.mem_append, List.mem_append] at hc
  rcases hc with (hc | hc) | hc
  · simp [head] at hc
    omega
  · unfold frac at hc
    split at hc
    · simp at hc
    · rw [List.mem_append] at hc
      rcases hc with hc | hc
      · split at hc <;> (simp at hc; omega)
      · exact digitsTo_bytes n hn c hc
  · unfold zone at hc
    split at hc
    · simp at hc
      omega
    · rw [List.mem_append] at hc
      rcases hc with hc | hc
      · split at hc <;> (simp at hc; omega)
      · simp at hc
        omega

theorem head_getD13 (d1 d2 sep : Int) (r : List Int) : (head d1 d2 sep ++ r).getD 13 0 = sep := rfl
theorem head_getD19 (d1 d2 sep : Int) (r : List Int) : (head d1 d2 sep ++ r).getD 19 0 = r.getD 0 0 := by
  have e : (head d1 d2 sep).length = 19 := rfl
  rw [List.getD_eq_getElem?_getD, List.getElem?_append_right (by rw [e]; decide), e, List.getD_eq_getElem?_getD]

/-- An element of the last five, counted from the end. -/
theorem last_getD (p q : List Int) (i : Nat) (hi : i < q.length) : (p ++ q).getD ((p ++ q).length - (q.length - i)) 0 = q.getD i 0 := by
  rw [List.length_append, show p.length + q.length - (q.length - i) = p.length + i by omega, List.getD_eq_getElem?_getD, List.getElem?_append_right (by omega), List.getD_eq_getElem?_getD, show p.length + i - p.length = i by omega]

theorem comma_at (k z c1 c2 c3 c4 : Int) (n : Nat) (hk : 0 ≤ k ∧ k < 3) : (frac k n ++ zone z c1 c2 c3 c4).getD 0 0 = 44 ↔ k = 2 := by
  unfold frac zone
  rcases (show k = 0 ∨ k = 1 ∨ k = 2 by omega) with rfl | rfl | rfl
  · by_cases hz : z = 0
    · simp [hz]
    · by_cases hz1 : z = 1
      · simp [hz1]
      · simp [hz, hz1]
  · simp
  · simp

theorem shape_law {d1 d2 sep k z c1 c2 c3 c4 off om : Int} {n : Nat} (hk : 0 ≤ k ∧ k < 3) (hc1 : 48 ≤ c1 ∧ c1 ≤ 51) (hc2 : 48 ≤ c2 ∧ c2 ≤ 57) (hc4 : 48 ≤ c4 ∧ c4 ≤ 57)
    (hoff : off = (c1 - 48) * 10 + (c2 - 48)) (hom : om = c3 - 48) :
    keepsOf (head d1 d2 sep ++ frac k n ++ zone z c1 c2 c3 c4) = wantOf sep k z off om := by
  unfold keepsOf wantOf
  rw [List.append_assoc, head_getD13, head_getD19]
  by_cases h1 : sep = 58
  · by_cases h2 : k = 2
    · rw [if_pos (.inr ((comma_at k z c1 c2 c3 c4 n hk).2 h2))]
      simp [h2]
    · have hcm : ¬ (frac k n ++ zone z c1 c2 c3 c4).getD 0 0 = 44 := fun h => h2 ((comma_at k z c1 c2 c3 c4 n hk).1 h)
      rw [if_neg (by rintro (h | h); exact h h1; exact hcm h)]
      have w1 : ((sep == 58) && (k != 2)) = true := by simp [h1, h2]
      rw [w1, Bool.true_and]
      by_cases hz : z = 0
      · have ez : zone z c1 c2 c3 c4 = [90] := by simp [zone, hz]
        rw [ez, ← List.append_assoc, if_pos (by exact last_getD (head d1 d2 sep ++ frac k n) [90] 0 (by decide))]
        simp [hz]
      · obtain ⟨p, ep⟩ : ∃ p, head d1 d2 sep ++ (frac k n ++ zone z c1 c2 c3 c4) = p ++ [c1, c2, 58, c3, c4] := by
          refine ⟨head d1 d2 sep ++ frac k n ++ (if z = 1 then [43] else [45]), ?_⟩
          unfold zone
          rw [if_neg hz]
          simp only [List.append_assoc]
        rw [ep]
        have e1 : (p ++ [c1, c2, 58, c3, c4]).getD ((p ++ [c1, c2, 58, c3, c4]).length - 1) 0 = c4 := last_getD p [c1, c2, 58, c3, c4] 4 (by simp)
        have e2 : (p ++ [c1, c2, 58, c3, c4]).getD ((p ++ [c1, c2, 58, c3, c4]).length - 2) 0 = c3 := last_getD p [c1, c2, 58, c3, c4] 3 (by simp)
        have e4 : (p ++ [c1, c2, 58, c3, c4]).getD ((p ++ [c1, c2, 58, c3, c4]).length - 4) 0 = c2 := last_getD p [c1, c2, 58, c3, c4] 1 (by simp)
        have e5 : (p ++ [c1, c2, 58, c3, c4]).getD ((p ++ [c1, c2, 58, c3, c4]).length - 5) 0 = c1 := last_getD p [c1, c2, 58, c3, c4] 0 (by simp)
        rw [e1, e2, e4, e5, if_neg (by omega)]
        have wz : (z == 0) = false := by simpa using hz
        rw [wz, Bool.false_or]
        have f1 : le23 c1 c2 = decide (off ≤ 23) := by
          unfold le23
          rw [Bool.eq_iff_iff]
          simp
          omega
        have f2 : decide (c3 ≤ 53) = decide (om ≤ 5) := by
          rw [decide_eq_decide]
          omega
        rw [f1, f2]
  · rw [if_pos (.inl h1)]
    simp [h1]

end Go.Proofs.Ybulkudw
