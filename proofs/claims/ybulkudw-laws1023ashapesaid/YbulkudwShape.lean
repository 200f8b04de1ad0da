/-
  b1023a: THE WALK OF 'timetext.LawS1023AShape' (function 3).
-/
import Derived.Test.YbulkudwOwn
import Derived.Test.YbulkudwText
import Derived.WalkKit
import Derived.WalkSpells
import Derived.WalkLawsBesides
import Derived.Deep.CutRange
import Derived.Deep.LoopGhost
namespace Go.Proofs.Ybulkudw
open Go.RowKit

theorem digit_c (x n : Int) (hx : 0 ≤ x ∧ x ≤ 255) (hn : 1 ≤ n ∧ n ≤ 10) (w : World) :
    Calls Yba.prog 5 #[.int .u8 x, .int .u8 n] w fun e w' => e = .returned (.int .u8 (48 + x % n)) ∧ w' = w := by
  have hm : 0 ≤ x % n := Int.emod_nonneg _ (by omega)
  have hl : x % n < 10 := by
    have := Int.emod_lt_of_pos x (show 0 < n by omega)
    omega
  go_enter Yba.func5, Yba.ntmps5
  go_wp2
  go_ret
  exact ⟨rfl, rfl⟩

set_option maxHeartbeats 4000000 in
set_option maxRecDepth 100000 in
theorem shape_any (a0 a1 a2 a3 a4 a5 a6 a7 a8 a9 : Int) (h0 : 0 ≤ a0 ∧ a0 ≤ 255) (h1 : 0 ≤ a1 ∧ a1 ≤ 255) (h2 : 0 ≤ a2 ∧ a2 ≤ 255) (h3 : 0 ≤ a3 ∧ a3 ≤ 255) (h4 : 0 ≤ a4 ∧ a4 ≤ 255) (h5 : 0 ≤ a5 ∧ a5 ≤ 255) (h6 : 0 ≤ a6 ∧ a6 ≤ 255) (h7 : 0 ≤ a7 ∧ a7 ≤ 255) (h8 : 0 ≤ a8 ∧ a8 ≤ 255) (h9 : 0 ≤ a9 ∧ a9 ≤ 255) (w : World) :
    Calls Yba.prog 3 #[.int .u8 a0, .int .u8 a1, .int .u8 a2, .int .u8 a3, .int .u8 a4, .int .u8 a5, .int .u8 a6, .int .u8 a7, .int .u8 a8, .int .u8 a9] w fun e w' => e = .returned (.bool true) ∧ Below w.heap.size w w' := by
  have kc := fun (w : World) (C : Array Value) (n c : Nat) => Lib.run_convert_bytes_const (P := Yba.prog) w 22 5 C n c Yba.underlying22 Yba.underlying5
  go_enter Yba.func3, Yba.ntmps3
  go_upto_region 2 with fail
  go_cut [22] from 30 to 34 (fun s wx => s = .int .u8 (sepOf a2) ∧ w = wx)
  case first =>
    rcases (show a2 % 3 = 0 ∨ a2 % 3 = 1 ∨ a2 % 3 = 2 by omega) with h | h | h
    · go_wp2_with fail
      go_meet
      exact ⟨by simp [sepOf, h]; rfl, rfl⟩
    · go_wp2_with fail
      go_meet
      exact ⟨by simp [sepOf, h]; rfl, rfl⟩
    · go_wp2_with fail
      go_meet
      exact ⟨by simp [sepOf, h]; rfl, rfl⟩
  case rest =>
  obtain ⟨rfl, rfl⟩ := hcut
  go_upto_region 5 with (first | (go_at_call 5; refine (digit_c _ _ (by omega) (by omega) _).mono ?_; rintro e w' ⟨rfl, rfl⟩) | (at_builtin; refine app_first (w := w) rfl _ _ rfl [50, 48, 48, 54, 45, 48, 49, 45, 48, 50, 84] [48 + a0 % 3, 48 + a1 % 10] rfl rfl rfl rfl rfl rfl (by simp) (by simp) ?_; intro v1 w1 own1))
  clear kc
  go_upto_region 6 with (at_builtin; refine app_step rfl _ _ rfl [sepOf a2] own1 rfl rfl rfl rfl (by simp) ?_; intro v2 w2 own2)
  clear own1
  go_upto_region 7 with (at_builtin; refine app_text rfl _ _ rfl [48, 52, 58, 48, 53] own2 rfl rfl rfl (by simp; decide) ?_; intro v3 w3 own3)
  clear own2
  have own4 : Own w w3 v3 (head (48 + a0 % 3) (48 + a1 % 10) (sepOf a2)) := own3
  clear own3
  have hHl : (head (48 + a0 % 3) (48 + a1 % 10) (sepOf a2)).length = 19 := rfl
  generalize hH : head (48 + a0 % 3) (48 + a1 % 10) (sepOf a2) = H at own4 hHl
  have HH : Hid (head (48 + a0 % 3) (48 + a1 % 10) (sepOf a2) = H) := hH
  clear hH
  go_upto_if 54 with fail
  go_cut [23] from 50 to 78 (fun v wx => Own w wx v (H ++ frac (a3 % 3) (1 + a4 % 9).toNat))
  case first =>
    by_cases hk : a3 % 3 = 0
    · have hk0 : ¬ 0 < a3 % 3 := by omega
      have ef : Hid (H ++ frac (a3 % 3) (1 + a4 % 9).toNat = H) := by
        show _ = _
        simp [frac, hk]
      clear hk
      go_wp2_with fail
      go_meet
      rw [ef.out]
      exact own4
    · have hk0 : 0 < a3 % 3 := by omega
      have ef : Hid (H ++ frac (a3 % 3) (1 + a4 % 9).toNat = H ++ (if a3 % 3 = 1 then [46] else [44]) ++ digitsTo (1 + a4 % 9).toNat) := by
        show _ = _
        simp [frac, hk]
      clear hk
      go_upto_if 56 with fail
      go_cut [23, 24] from 50 to 62 (fun v s wx => s = .int .i64 (a3 % 3) ∧ Own w wx v (H ++ (if a3 % 3 = 1 then [46] else [44])))
      case first =>
        by_cases h1 : a3 % 3 = 1
        · have H1 : Hid (a3 % 3 = 1) := h1
          have hb1 : (a3 % 3 == 1) = true := by simpa using h1
          clear h1
          go_wp2_with (at_builtin; refine app_step rfl _ _ rfl [46] own4 rfl rfl rfl rfl (by simp; omega) ?_; intro v5 w5 own5)
          go_meet
          rw [if_pos H1.out, H1.out]
          exact ⟨rfl, own5⟩
        · have H1 : Hid (¬ a3 % 3 = 1) := h1
          have hb1 : (a3 % 3 == 1) = false := by simpa using h1
          clear h1
          go_wp2_with (at_builtin; refine app_step rfl _ _ rfl [44] own4 rfl rfl rfl rfl (by simp; omega) ?_; intro v5 w5 own5)
          go_meet
          rw [if_neg H1.out]
          exact ⟨rfl, own5⟩
      case rest =>
      obtain ⟨rfl, hcut⟩ := hcut
      have hPl : (H ++ (if a3 % 3 = 1 then [46] else [44])).length = 20 := by split <;> simp [hHl]
      generalize (H ++ (if a3 % 3 = 1 then [46] else [44])) = P at hcut hPl ef
      clear own4
      go_wp2_with fail
      clear hHl
      obtain ⟨N, hN⟩ : ∃ N : Nat, (N : Int) = 1 + a4 % 9 := ⟨(1 + a4 % 9).toNat, by omega⟩
      have HN : Hid ((N : Int) = 1 + a4 % 9) := hN
      have hN9 : N ≤ 9 := by omega
      clear hN
      go_loopg [23, 26] N (fun g v i wr => ∃ j : Nat, g + j = N ∧ i = .int .i64 j ∧ Own w wr v (P ++ digitsTo j))
      case atStart => exact ⟨0, by omega, rfl, by simpa [digitsTo] using hcut⟩
      case round =>
        clear hcut
        obtain ⟨j, hj, rfl, hown⟩ := hrel
        have HJ : Hid (gk + j = N) := hj
        clear hj
        by_cases hlt : (j : Int) < 1 + a4 % 9
        · have hjm : (j : Int) % 10 = (j : Int) := by have := HN.out; omega
          have hj9 : (j : Int) < 9 := by have := HN.out; omega
          have hlen : (P ++ digitsTo j).length + 1 ≤ 100 := by rw [List.length_append, hPl, digitsTo_length]; omega
          go_wp2_with (at_builtin; refine app_step rfl _ _ rfl [48 + (j : Int)] hown rfl rfl rfl rfl (by exact hlen) ?_; intro v5 w5 own5)
          go_roundg (gk - 1)
          case measure => have := HJ.out; have := HN.out; omega
          case rel =>
            refine ⟨j + 1, by have := HJ.out; have := HN.out; omega, by go_num, ?_⟩
            rw [List.append_assoc] at own5
            exact own5
        · have hjN : j = N := by have := HJ.out; have := HN.out; omega
          go_wp2_with fail
          go_meet
          rw [ef.out, show (1 + a4 % 9).toNat = j by have := HN.out; omega]
          exact hown
  case rest =>
  clear own4
  have hTl : (H ++ frac (a3 % 3) (1 + a4 % 9).toNat).length ≤ 30 := by
    have := frac_length (a3 % 3) (1 + a4 % 9).toNat
    rw [List.length_append, hHl]
    omega
  have hT19 : 19 ≤ (H ++ frac (a3 % 3) (1 + a4 % 9).toNat).length := by
    rw [List.length_append, hHl]
    omega
  generalize hT : H ++ frac (a3 % 3) (1 + a4 % 9).toNat = T at hcut hTl hT19
  have HT : Hid (H ++ frac (a3 % 3) (1 + a4 % 9).toNat = T) := hT
  clear hT hHl
  have ownT := hcut
  clear hcut
  go_upto_if 83 with fail
  go_cut [23, 27] from 79 to 105 (fun v s wx => s = .int .i64 (a5 % 3) ∧ Own w wx v (T ++ zone (a5 % 3) (48 + a6 % 4) (48 + a7 % 10) (48 + a8 % 7) (48 + a9 % 10)))
  case first =>
    by_cases hz : a5 % 3 = 0
    · have HZ : Hid (a5 % 3 = 0) := hz
      have hb0 : (a5 % 3 == 0) = true := by simpa using hz
      clear hz
      go_wp2_with (at_builtin; refine app_step rfl _ _ rfl [90] ownT rfl rfl rfl rfl (by simp; omega) ?_; intro v5 w5 own5)
      go_meet
      rw [HZ.out]
      exact ⟨rfl, own5⟩
    · have HZ : Hid (¬ a5 % 3 = 0) := hz
      have hb0 : (a5 % 3 == 0) = false := by simpa using hz
      clear hz
      go_upto_if 88 with fail
      go_cut [23, 27] from 79 to 94 (fun v s wx => s = .int .i64 (a5 % 3) ∧ Own w wx v (T ++ (if a5 % 3 = 1 then [43] else [45])))
      case first =>
        by_cases h1 : a5 % 3 = 1
        · have H1 : Hid (a5 % 3 = 1) := h1
          have hb1 : (a5 % 3 == 1) = true := by simpa using h1
          clear h1
          go_wp2_with (at_builtin; refine app_step rfl _ _ rfl [43] ownT rfl rfl rfl rfl (by simp; omega) ?_; intro v5 w5 own5)
          go_meet
          rw [if_pos H1.out, H1.out]
          exact ⟨rfl, own5⟩
        · have H1 : Hid (¬ a5 % 3 = 1) := h1
          have hb1 : (a5 % 3 == 1) = false := by simpa using h1
          clear h1
          go_wp2_with (at_builtin; refine app_step rfl _ _ rfl [45] ownT rfl rfl rfl rfl (by simp; omega) ?_; intro v5 w5 own5)
          go_meet
          rw [if_neg H1.out]
          exact ⟨rfl, own5⟩
      case rest =>
      obtain ⟨rfl, hcut⟩ := hcut
      clear ownT
      have hSl : (T ++ (if a5 % 3 = 1 then [43] else [45])).length + 5 ≤ 100 := by split <;> (simp; omega)
      have EZ : Hid (T ++ zone (a5 % 3) (48 + a6 % 4) (48 + a7 % 10) (48 + a8 % 7) (48 + a9 % 10) = T ++ (if a5 % 3 = 1 then [43] else [45]) ++ [48 + a6 % 4, 48 + a7 % 10, 58, 48 + a8 % 7, 48 + a9 % 10]) := by
        show _ = _
        unfold zone
        rw [if_neg HZ.out, List.append_assoc]
      generalize (T ++ (if a5 % 3 = 1 then [43] else [45])) = S at hcut hSl EZ
      go_wp2_with (first | (go_at_call 5; refine (digit_c _ _ (by omega) (by omega) _).mono ?_; rintro e w' ⟨rfl, rfl⟩) | (at_builtin; refine app_step rfl _ _ rfl [48 + a6 % 4, 48 + a7 % 10, 58, 48 + a8 % 7, 48 + a9 % 10] hcut rfl rfl rfl rfl (by exact hSl) ?_; intro v5 w5 own5))
      go_meet
      rw [EZ.out]
      exact ⟨rfl, own5⟩
  case rest =>
  obtain ⟨rfl, ownZ⟩ := hcut
  clear ownT
  go_upto_region 25 with fail
  go_cut [22, 23, 24, 27, 29, 45] from 114 to 132 (fun _ v _ _ b _ wx => b = .bool (wantOf (sepOf a2) (a3 % 3) (a5 % 3) (a6 % 4 * 10 + a7 % 10) (a8 % 7)) ∧ Own w wx v (T ++ zone (a5 % 3) (48 + a6 % 4) (48 + a7 % 10) (48 + a8 % 7) (48 + a9 % 10)))
  case first =>
    by_cases hs : sepOf a2 = 58
    · have B1 : (sepOf a2 == 58) = true := by simpa using hs
      have HS : Hid ((sepOf a2 == 58) = true) := B1
      clear hs
      by_cases hk : a3 % 3 = 2
      · have B2 : (a3 % 3 != 2) = false := by simpa using hk
        have HK : Hid ((a3 % 3 != 2) = false) := B2
        clear hk
        go_wp2_with fail
        go_meet
        exact ⟨by unfold wantOf; rw [HS.out, HK.out]; rfl, ownZ⟩
      · have B2 : (a3 % 3 != 2) = true := by simpa using hk
        have HK : Hid ((a3 % 3 != 2) = true) := B2
        clear hk
        by_cases hz : a5 % 3 = 0
        · have B3 : (a5 % 3 == 0) = true := by simpa using hz
          have HZ : Hid ((a5 % 3 == 0) = true) := B3
          clear hz
          go_wp2_with fail
          go_meet
          exact ⟨by unfold wantOf; rw [HS.out, HK.out, HZ.out]; rfl, ownZ⟩
        · have B3 : (a5 % 3 == 0) = false := by simpa using hz
          have HZ : Hid ((a5 % 3 == 0) = false) := B3
          clear hz
          by_cases ho : a6 % 4 * 10 + a7 % 10 ≤ 23
          · have B4 : decide (a6 % 4 * 10 + a7 % 10 ≤ 23) = true := decide_eq_true ho
            have HO : Hid (decide (a6 % 4 * 10 + a7 % 10 ≤ 23) = true) := B4
            clear B4
            go_wp2_with fail
            go_meet
            exact ⟨by unfold wantOf; rw [HS.out, HK.out, HZ.out, HO.out]; rfl, ownZ⟩
          · have B4 : decide (a6 % 4 * 10 + a7 % 10 ≤ 23) = false := decide_eq_false ho
            have HO : Hid (decide (a6 % 4 * 10 + a7 % 10 ≤ 23) = false) := B4
            clear B4
            go_wp2_with fail
            go_meet
            exact ⟨by unfold wantOf; rw [HS.out, HK.out, HZ.out, HO.out]; rfl, ownZ⟩
    · have B1 : (sepOf a2 == 58) = false := by simpa using hs
      have HS : Hid ((sepOf a2 == 58) = false) := B1
      clear hs
      go_wp2_with fail
      go_meet
      exact ⟨by unfold wantOf; rw [HS.out]; rfl, ownZ⟩
  case rest =>
  obtain ⟨rfl, ownF⟩ := hcut
  clear ownZ
  have hzl := zone_length (a5 % 3) (48 + a6 % 4) (48 + a7 % 10) (48 + a8 % 7) (48 + a9 % 10)
  have hXl : (T ++ zone (a5 % 3) (48 + a6 % 4) (48 + a7 % 10) (48 + a8 % 7) (48 + a9 % 10)).length ≤ 100 := by rw [List.length_append]; omega
  have hX20 : 20 ≤ (T ++ zone (a5 % 3) (48 + a6 % 4) (48 + a7 % 10) (48 + a8 % 7) (48 + a9 % 10)).length := by rw [List.length_append]; omega
  have hsep : 0 ≤ sepOf a2 ∧ sepOf a2 ≤ 255 := by unfold sepOf; split <;> (try split) <;> omega
  have hlaw : Hid (keepsOf (T ++ zone (a5 % 3) (48 + a6 % 4) (48 + a7 % 10) (48 + a8 % 7) (48 + a9 % 10)) = wantOf (sepOf a2) (a3 % 3) (a5 % 3) (a6 % 4 * 10 + a7 % 10) (a8 % 7)) := by
    show _ = _
    rw [← HT.out, ← HH.out]
    exact shape_law (by omega) (by omega) (by omega) (by omega) (by omega) (by omega)
  have hby : ∀ c ∈ T ++ zone (a5 % 3) (48 + a6 % 4) (48 + a7 % 10) (48 + a8 % 7) (48 + a9 % 10), 0 ≤ c ∧ c ≤ 255 := by
    rw [← HT.out, ← HH.out]
    exact text_bytes (by omega) (by omega) (by omega) hsep (by omega) (by omega) (by omega) (by omega)
  clear hzl hTl hT19 HT HH hsep
  generalize (T ++ zone (a5 % 3) (48 + a6 % 4) (48 + a7 % 10) (48 + a8 % 7) (48 + a9 % 10)) = X at ownF hXl hX20 hlaw hby
  generalize wantOf (sepOf a2) (a3 % 3) (a5 % 3) (a6 % 4 * 10 + a7 % 10) (a8 % 7) = b at hlaw ⊢
  have hK := keeps_nums X hby hX20 hXl
  have HK : Hid (∀ W, Calls Yba.prog 6 #[.string (strOfNums X)] W fun e w' => e = .returned (.bool (keepsOf X)) ∧ w' = W) := hK
  have hstr := own_string ownF (by omega)
  clear hK hby
  go_wp2_with fail
  refine (HK.out _).mono ?_
  rintro e W' ⟨rfl, rfl⟩
  rw [hlaw.out]
  go_wp2
  go_ret
  exact ⟨rfl, ownF.2⟩

end Go.Proofs.Ybulkudw
