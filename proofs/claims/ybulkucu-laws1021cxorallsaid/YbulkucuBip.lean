/-
  b1021a: THE WALK OF 'sonet.bip8' (function 5).
-/
import Derived.Test.YbulkucuFour
import Derived.WalkKit
import Derived.Deep.CutRange
import Derived.Deep.LoopGhost
import Derived.Deep.RegionWith
namespace Go.Proofs.Ybulkucu
open Go.RowKit

set_option maxHeartbeats 4000000 in
/-- At least one byte, or a slice that is not nil. -/
theorem bip_any (x : Nat → Nat) (b off len cap : Nat) (w : World) (hx : ∀ j, x j < 256) (_hbig : len ≤ 4096) (hcap : len ≤ cap) (hm : cap ≤ 9223372036854775807) (hc : ∀ j, j < len → w.cell? ⟨b, off + j, none⟩ = some (.int .u8 (x j : Nat))) :
    Calls Yba.prog 5 #[.slice (some ⟨b, off, none⟩) len cap] w fun e w' => e = .returned (.int .u8 (xorTo x len)) ∧ Below w.heap.size w w' := by
  have HC : Hid (∀ q o n c W, q + 8 ≤ len → 8 ≤ n → o = off + q → Below w.heap.size w W → Calls Yba.prog 7 #[.agg #[], .slice (some ⟨b, o, none⟩) n c] W fun e w' => e = .returned (.int .u64 (wordAt x q)) ∧ Below W.heap.size W w') :=
    fun q o n c W hq hn ho hW => word_later x b off len q o n c w W hx hc hq hn ho hW
  go_enter Yba.func5, Yba.ntmps5
  go_wp2_with fail
  go_loopg [0] len (fun n p wr => Rel1 x b off len cap w n p wr)
  case atStart => exact ⟨0, cap, off, 0, 0, 0, 0, by omega, hcap, Nat.le_refl _, .inr rfl, rfl, by decide, by decide, by decide, by decide, four_start w, folds_start x⟩
  case round =>
    obtain ⟨q, c, o, x0, x1, x2, x3, hqn, hnc, hcc, ho, rfl, l0, l1, l2, l3, hF, hW⟩ := hrel
    by_cases h32 : (32 : Int) ≤ (gk : Int)
    · have hoq : o = off + q := by omega
      subst hoq
      have A : Hid (q + gk = len ∧ x0 < 2 ^ 64 ∧ x1 < 2 ^ 64 ∧ x2 < 2 ^ 64 ∧ x3 < 2 ^ 64 ∧ Folds x q x0 x1 x2 x3) := ⟨hqn, l0, l1, l2, l3, hW⟩
      clear hqn l0 l1 l2 l3 hW ho hc
      have n8 : ¬ c = 8 := by omega
      have n16 : ¬ c = 16 := by omega
      have n24 : ¬ c = 24 := by omega
      have m8 : (8 : Int) ≤ (gk : Int) := by omega
      have m16 : (16 : Int) ≤ (gk : Int) := by omega
      have m24 : (24 : Int) ≤ (gk : Int) := by omega
      have mc : (gk : Int) ≤ (c : Int) := by omega
      have HX : Hid (∀ j, x j < 256) := hx
      clear hx
      go_upto_region 4 with fail
      go_cut [] from 13 to 19 (fun wx => Four w wx (x0 ^^^ wordAt x q) x1 x2 x3)
      case first =>
        have hb := hF.below
        have c0 := hF.c0
        have f0 := hF.f0
        have hlt := World.block_lt_of_cell? _ _ c0
        go_region_with (go_at_call 7; refine (HC.out q _ _ _ _ (by have := A.out; omega) (by omega) (by omega) (by exact hb.drew)).mono ?_; rintro e w1 ⟨rfl, hb1⟩; have c1' := (hb1.cell hlt).trans c0; have f1' := (hb1.frozen hlt).trans f0)
        all_goals (go_wp2_with fail; go_meet; exact hF.put0 hb1 A.out.2.1 (wordAt_lt x HX.out _))
      case rest =>
      clear hF
      have hF := hcut
      clear hcut
      go_upto_region 5 with fail
      go_cut [] from 20 to 27 (fun wx => Four w wx (x0 ^^^ wordAt x q) (x1 ^^^ wordAt x (q + 8)) x2 x3)
      case first =>
        have hb := hF.below
        have c0 := hF.c1
        have f0 := hF.f1
        have hlt := World.block_lt_of_cell? _ _ c0
        go_region_with (go_at_call 7; refine (HC.out (q + 8) _ _ _ _ (by have := A.out; omega) (by omega) (by omega) (by exact hb.drew)).mono ?_; rintro e w1 ⟨rfl, hb1⟩; have c1' := (hb1.cell hlt).trans c0; have f1' := (hb1.frozen hlt).trans f0)
        all_goals (go_wp2_with fail; go_meet; exact hF.put1 hb1 A.out.2.2.1 (wordAt_lt x HX.out _))
      case rest =>
      clear hF
      have hF := hcut
      clear hcut
      go_upto_region 6 with fail
      go_cut [] from 28 to 35 (fun wx => Four w wx (x0 ^^^ wordAt x q) (x1 ^^^ wordAt x (q + 8)) (x2 ^^^ wordAt x (q + 16)) x3)
      case first =>
        have hb := hF.below
        have c0 := hF.c2
        have f0 := hF.f2
        have hlt := World.block_lt_of_cell? _ _ c0
        go_region_with (go_at_call 7; refine (HC.out (q + 16) _ _ _ _ (by have := A.out; omega) (by omega) (by omega) (by exact hb.drew)).mono ?_; rintro e w1 ⟨rfl, hb1⟩; have c1' := (hb1.cell hlt).trans c0; have f1' := (hb1.frozen hlt).trans f0)
        all_goals (go_wp2_with fail; go_meet; exact hF.put2 hb1 A.out.2.2.2.1 (wordAt_lt x HX.out _))
      case rest =>
      clear hF
      have hF := hcut
      clear hcut
      by_cases hc32 : c = 32
      · subst hc32
        go_upto_region 7 with fail
        have hb := hF.below
        have c0 := hF.c3
        have f0 := hF.f3
        have hlt := World.block_lt_of_cell? _ _ c0
        go_region_with (go_at_call 7; refine (HC.out (q + 24) _ _ _ _ (by have := A.out; omega) (by omega) (by omega) (by exact hb.drew)).mono ?_; rintro e w1 ⟨rfl, hb1⟩; have c1' := (hb1.cell hlt).trans c0; have f1' := (hb1.frozen hlt).trans f0)
        all_goals
          (go_wp2_with fail
           go_roundg 0
           case measure => omega
           case rel => exact rel1_step HX.out A.out (by omega) (Nat.le_refl _) (Nat.zero_le _) (.inl rfl) (hF.put3 hb1 A.out.2.2.2.2.1 (wordAt_lt x HX.out _)))
      · go_upto_region 7 with fail
        have hb := hF.below
        have c0 := hF.c3
        have f0 := hF.f3
        have hlt := World.block_lt_of_cell? _ _ c0
        go_region_with (go_at_call 7; refine (HC.out (q + 24) _ _ _ _ (by have := A.out; omega) (by omega) (by omega) (by exact hb.drew)).mono ?_; rintro e w1 ⟨rfl, hb1⟩; have c1' := (hb1.cell hlt).trans c0; have f1' := (hb1.frozen hlt).trans f0)
        all_goals
          (go_wp2_with fail
           go_roundg (gk - 32)
           case measure => omega
           case rel => exact rel1_step HX.out A.out (by omega) (by omega) (by omega) (.inr rfl) (hF.put3 hb1 A.out.2.2.2.2.1 (wordAt_lt x HX.out _)))
    · obtain ⟨hb, c0, c1, c2, c3, f0, f1, f2, f3⟩ := hF
      go_wp2_with fail
      have A : Hid (q + gk = len ∧ x0 < 2 ^ 64 ∧ x1 < 2 ^ 64 ∧ x2 < 2 ^ 64 ∧ x3 < 2 ^ 64 ∧ Folds x q x0 x1 x2 x3) := ⟨hqn, l0, l1, l2, l3, hW⟩
      clear hqn l0 l1 l2 l3 hW c0 c1 c2 c3 f0 f1 f2 f3
      go_loopg [0, 4] gk (fun n p v wr => Rel2 x b off len cap w n p v wr)
      case atStart => exact rel2_start A.out hnc hcc ho hb
      case round =>
        clear A hb hnc hcc ho h32
        obtain ⟨q, c, o, y, hqn, hnc, hcc, ho, rfl, rfl, l, hb, hF⟩ := hrel
        by_cases h8 : (8 : Int) ≤ (gk : Int)
        · have hoq : o = off + q := by omega
          subst hoq
          have A : Hid (q + gk = len ∧ y < 2 ^ 64 ∧ Fold x q y) := ⟨hqn, l, hF⟩
          have HX : Hid (∀ j, x j < 256) := hx
          clear hqn l hF hx hc ho
          by_cases hc8 : c = 8
          · subst hc8
            go_wp2_with (go_at_call 7; refine (HC.out q _ _ _ _ (by have := A.out; omega) (by omega) (by omega) (by exact hb)).mono ?_; rintro e w1 ⟨rfl, hb1⟩)
            go_roundg 0
            case measure => omega
            case rel => exact rel2_step HX.out A.out (by omega) (Nat.le_refl _) (Nat.zero_le _) (.inl rfl) (hb.trans (hb1.mono hb.size))
          · go_wp2_with (go_at_call 7; refine (HC.out q _ _ _ _ (by have := A.out; omega) (by omega) (by omega) (by exact hb)).mono ?_; rintro e w1 ⟨rfl, hb1⟩)
            go_roundg (gk - 8)
            case measure => omega
            case rel => exact rel2_step HX.out A.out (by omega) (by omega) (by omega) (.inr rfl) (hb.trans (hb1.mono hb.size))
        · have hs1 := shx_walk 32 y 4294967296 (by decide) l
          have hs2 := shx_walk 16 (shx 32 y) 65536 (by decide) (shx_lt l)
          have hs3 := shx_walk 8 (shx 16 (shx 32 y)) 256 (by decide) (shx_lt (shx_lt l))
          have hs4 : IntKind.u8.wrap ((shx 8 (shx 16 (shx 32 y)) : Nat) : Int) = ((xorTo x q : Nat) : Int) := by
            rw [← show fold8 y = xorTo x q from hF]
            have e : ∀ n : Int, IntKind.u8.wrap n = n % 256 := fun n => by simp [IntKind.wrap, IntKind.bits, IntKind.signed]
            rw [e]
            unfold fold8
            omega
          clear l hF
          go_wp2_with fail
          clear hs1 hs2 hs3 hs4
          have HQ : Hid (q + gk = len) := hqn
          have hcW : ∀ k, k < gk → wr.cell? ⟨b, o + k, none⟩ = some (.int .u8 (x (q + k) : Nat)) := by
            intro k hk
            have hoq : o = off + q := by omega
            have h1 := hc (q + k) (by omega)
            rw [hoq, Nat.add_assoc]
            exact (hb.cell (World.block_lt_of_cell? _ _ h1)).trans h1
          have hg : gk ≤ 4096 := by omega
          clear hc hqn ho hnc hcc
          go_loop [5, 81] (fun v i => ∃ k : Nat, k ≤ gk ∧ i = .int .i64 k ∧ v = .int .u8 (xorTo x (q + k))) (fun _ i => gk - (intOf i).toNat)
          case atStart => exact ⟨0, Nat.zero_le _, rfl, rfl⟩
          case round =>
            obtain ⟨k, hk, rfl, rfl⟩ := hrel
            have hcell := hcW k
            clear hcW
            go_wp2
            · have hlt : k < gk := by assumption
              go_round
              case rel =>
                refine ⟨k + 1, by omega, by go_num, ?_⟩
                rw [xor_u8 _ _ (xorTo_lt x hx _) (hx _)]
                rfl
              case measure => simp only [intOf]; omega
            · have hge : ¬ k < gk := by assumption
              have hkl : q + k = len := by have := HQ.out; omega
              go_ret
              refine ⟨?_, hb⟩
              rw [← hkl]
              rfl

/-- No byte, a nil slice too. -/
theorem bip_empty (a : Option Addr) (cap : Nat) (w : World) :
    Calls Yba.prog 5 #[.slice a 0 cap] w fun e w' => e = .returned (.int .u8 0) ∧ Below w.heap.size w w' := by
  have hs : bits .xor .u64 0 0 = 0 := by decide
  go_enter Yba.func5, Yba.ntmps5
  go_wp2
  refine wp_loop_rounds 1 ?_
  rw [rounds_succ]
  go_wp2
  refine wp_loop_rounds 1 ?_
  rw [rounds_succ]
  go_wp2
  refine wp_loop_rounds 1 ?_
  rw [rounds_succ]
  go_wp2
  go_ret
  exact ⟨rfl, (Below.refl _ w).alloc (Nat.le_refl _) _⟩

end Go.Proofs.Ybulkucu
