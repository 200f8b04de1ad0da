/-
  b1021a: what is kept of the four words of 'sonet.bip8' from statement to statement; the call of Uint64 in a later world.
-/
import Derived.Test.YbulkucuWord
import Derived.WalkKit
namespace Go.Proofs.Ybulkucu
open Go.RowKit

/-- The four words lie in block B, and may be written; below B all is as it was. -/
structure Four (w : World) (wr : World) (x0 x1 x2 x3 : Nat) : Prop where
  below : Below w.heap.size w wr
  c0 : wr.cell? ⟨w.heap.size, 0, none⟩ = some (.int .u64 x0)
  c1 : wr.cell? ⟨w.heap.size, 1, none⟩ = some (.int .u64 x1)
  c2 : wr.cell? ⟨w.heap.size, 2, none⟩ = some (.int .u64 x2)
  c3 : wr.cell? ⟨w.heap.size, 3, none⟩ = some (.int .u64 x3)
  f0 : wr.frozen? ⟨w.heap.size, 0, none⟩ = false
  f1 : wr.frozen? ⟨w.heap.size, 1, none⟩ = false
  f2 : wr.frozen? ⟨w.heap.size, 2, none⟩ = false
  f3 : wr.frozen? ⟨w.heap.size, 3, none⟩ = false

theorem Four.drew {w W : World} {x0 x1 x2 x3 : Nat} (h : Four w W x0 x1 x2 x3) : Four w W.drew x0 x1 x2 x3 :=
  ⟨h.below.drew, h.c0, h.c1, h.c2, h.c3, h.f0, h.f1, h.f2, h.f3⟩

theorem Four.later {w W W1 : World} {x0 x1 x2 x3 : Nat} (h : Four w W x0 x1 x2 x3) (hb : Below W.heap.size W W1) : Four w W1 x0 x1 x2 x3 := by
  have hlt : w.heap.size < W.heap.size := World.block_lt_of_cell? _ _ h.c0
  have hc : ∀ i, W1.cell? ⟨w.heap.size, i, none⟩ = W.cell? ⟨w.heap.size, i, none⟩ := fun i => hb.cell hlt
  have hf : ∀ i, W1.frozen? ⟨w.heap.size, i, none⟩ = W.frozen? ⟨w.heap.size, i, none⟩ := fun i => hb.frozen hlt
  exact ⟨h.below.trans (hb.mono h.below.size), (hc _).trans h.c0, (hc _).trans h.c1, (hc _).trans h.c2, (hc _).trans h.c3,
    (hf _).trans h.f0, (hf _).trans h.f1, (hf _).trans h.f2, (hf _).trans h.f3⟩

/-- Behind 'w[0] ^= y'. -/
theorem Four.put0 {w W W1 : World} {x0 x1 x2 x3 y : Nat} (h : Four w W x0 x1 x2 x3) (hb : Below W.drew.heap.size W.drew W1) (hx : x0 < 2 ^ 64) (hy : y < 2 ^ 64) :
    Four w (W1.setCell ⟨w.heap.size, 0, none⟩ (.int .u64 (bits .xor .u64 (x0 : Int) (y : Int)))) (x0 ^^^ y) x1 x2 x3 := by
  have h1 := h.drew.later hb
  exact ⟨h1.below.setCell (Nat.le_refl _) _, by rw [xor_u64 _ _ hx hy]; exact World.cell?_setCell_same _ _ _ h1.c0, (World.cell?_setCell_other _ _ _ _ (by simp)).trans h1.c1, (World.cell?_setCell_other _ _ _ _ (by simp)).trans h1.c2, (World.cell?_setCell_other _ _ _ _ (by simp)).trans h1.c3, (World.frozen?_setCell ..).trans h1.f0, (World.frozen?_setCell ..).trans h1.f1, (World.frozen?_setCell ..).trans h1.f2, (World.frozen?_setCell ..).trans h1.f3⟩

/-- Behind 'w[1] ^= y'. -/
theorem Four.put1 {w W W1 : World} {x0 x1 x2 x3 y : Nat} (h : Four w W x0 x1 x2 x3) (hb : Below W.drew.heap.size W.drew W1) (hx : x1 < 2 ^ 64) (hy : y < 2 ^ 64) :
    Four w (W1.setCell ⟨w.heap.size, 1, none⟩ (.int .u64 (bits .xor .u64 (x1 : Int) (y : Int)))) x0 (x1 ^^^ y) x2 x3 := by
  have h1 := h.drew.later hb
  exact ⟨h1.below.setCell (Nat.le_refl _) _, (World.cell?_setCell_other _ _ _ _ (by simp)).trans h1.c0, by rw [xor_u64 _ _ hx hy]; exact World.cell?_setCell_same _ _ _ h1.c1, (World.cell?_setCell_other _ _ _ _ (by simp)).trans h1.c2, (World.cell?_setCell_other _ _ _ _ (by simp)).trans h1.c3, (World.frozen?_setCell ..).trans h1.f0, (World.frozen?_setCell ..).trans h1.f1, (World.frozen?_setCell ..).trans h1.f2, (World.frozen?_setCell ..).trans h1.f3⟩

/-- Behind 'w[2] ^= y'. -/
theorem Four.put2 {w W W1 : World} {x0 x1 x2 x3 y : Nat} (h : Four w W x0 x1 x2 x3) (hb : Below W.drew.heap.size W.drew W1) (hx : x2 < 2 ^ 64) (hy : y < 2 ^ 64) :
    Four w (W1.setCell ⟨w.heap.size, 2, none⟩ (.int .u64 (bits .xor .u64 (x2 : Int) (y : Int)))) x0 x1 (x2 ^^^ y) x3 := by
  have h1 := h.drew.later hb
  exact ⟨h1.below.setCell (Nat.le_refl _) _, (World.cell?_setCell_other _ _ _ _ (by simp)).trans h1.c0, (World.cell?_setCell_other _ _ _ _ (by simp)).trans h1.c1, by rw [xor_u64 _ _ hx hy]; exact World.cell?_setCell_same _ _ _ h1.c2, (World.cell?_setCell_other _ _ _ _ (by simp)).trans h1.c3, (World.frozen?_setCell ..).trans h1.f0, (World.frozen?_setCell ..).trans h1.f1, (World.frozen?_setCell ..).trans h1.f2, (World.frozen?_setCell ..).trans h1.f3⟩

/-- Behind 'w[3] ^= y'. -/
theorem Four.put3 {w W W1 : World} {x0 x1 x2 x3 y : Nat} (h : Four w W x0 x1 x2 x3) (hb : Below W.drew.heap.size W.drew W1) (hx : x3 < 2 ^ 64) (hy : y < 2 ^ 64) :
    Four w (W1.setCell ⟨w.heap.size, 3, none⟩ (.int .u64 (bits .xor .u64 (x3 : Int) (y : Int)))) x0 x1 x2 (x3 ^^^ y) := by
  have h1 := h.drew.later hb
  exact ⟨h1.below.setCell (Nat.le_refl _) _, (World.cell?_setCell_other _ _ _ _ (by simp)).trans h1.c0, (World.cell?_setCell_other _ _ _ _ (by simp)).trans h1.c1, (World.cell?_setCell_other _ _ _ _ (by simp)).trans h1.c2, by rw [xor_u64 _ _ hx hy]; exact World.cell?_setCell_same _ _ _ h1.c3, (World.frozen?_setCell ..).trans h1.f0, (World.frozen?_setCell ..).trans h1.f1, (World.frozen?_setCell ..).trans h1.f2, (World.frozen?_setCell ..).trans h1.f3⟩

/-- The call of Uint64 at place q, in whatever later world, the address as the walk spells it. -/
theorem word_later (x : Nat → Nat) (b off len q o n c : Nat) (w W : World) (hx : ∀ j, x j < 256) (hc : ∀ j, j < len → w.cell? ⟨b, off + j, none⟩ = some (.int .u8 (x j : Nat))) (hq : q + 8 ≤ len) (hn : 8 ≤ n) (ho : o = off + q) (hW : Below w.heap.size w W) :
    Calls Yba.prog 7 #[.agg #[], .slice (some ⟨b, o, none⟩) n c] W fun e w' => e = .returned (.int .u64 (wordAt x q)) ∧ Below W.heap.size W w' := by
  subst ho
  exact word_at x b off len q n c W hx (fun j hj => (hW.cell (World.block_lt_of_cell? _ _ (hc j hj))).trans (hc j hj)) hq hn

theorem four_start (w : World) : Four w (w.alloc (.cells #[.int .u64 0, .int .u64 0, .int .u64 0, .int .u64 0] 26)) 0 0 0 0 :=
  ⟨(Below.refl _ w).alloc (Nat.le_refl _) _, by simp, by simp, by simp, by simp, by simp, by simp, by simp, by simp⟩

/-- What the first loop keeps, at n bytes to come: the place q, the slice's capacity c, its address o. -/
def Rel1 (x : Nat → Nat) (b off len cap : Nat) (w : World) (n : Nat) (p : Value) (wr : World) : Prop :=
  ∃ q c o x0 x1 x2 x3 : Nat, q + n = len ∧ n ≤ c ∧ c ≤ cap ∧ (n = 0 ∨ o = off + q) ∧ p = .slice (some ⟨b, o, none⟩) n c ∧ x0 < 2 ^ 64 ∧ x1 < 2 ^ 64 ∧ x2 < 2 ^ 64 ∧ x3 < 2 ^ 64 ∧ Four w wr x0 x1 x2 x3 ∧ Folds x q x0 x1 x2 x3
/-- .. the second. -/
def Rel2 (x : Nat → Nat) (b off len cap : Nat) (w : World) (n : Nat) (p v : Value) (wr : World) : Prop :=
  ∃ q c o y : Nat, q + n = len ∧ n ≤ c ∧ c ≤ cap ∧ (n = 0 ∨ o = off + q) ∧ p = .slice (some ⟨b, o, none⟩) n c ∧ v = .int .u64 y ∧ y < 2 ^ 64 ∧ Below w.heap.size w wr ∧ Fold x q y

/-- A round of the first loop hands its relation on. -/
theorem rel1_step {x : Nat → Nat} {b off len cap q n o n' c' : Nat} {w W1 : World} {x0 x1 x2 x3 : Nat} (hx : ∀ j, x j < 256)
    (A : q + n = len ∧ x0 < 2 ^ 64 ∧ x1 < 2 ^ 64 ∧ x2 < 2 ^ 64 ∧ x3 < 2 ^ 64 ∧ Folds x q x0 x1 x2 x3) (hn : n = n' + 32) (hc : n' ≤ c') (hcc : c' ≤ cap) (ho : n' = 0 ∨ o = off + q + 32)
    (hF : Four w W1 (x0 ^^^ wordAt x q) (x1 ^^^ wordAt x (q + 8)) (x2 ^^^ wordAt x (q + 16)) (x3 ^^^ wordAt x (q + 24))) :
    Rel1 x b off len cap w n' (.slice (some ⟨b, o, none⟩) n' c') W1 := by
  obtain ⟨h1, l0, l1, l2, l3, hW⟩ := A
  have hw := wordAt_lt x hx
  exact ⟨q + 32, c', o, _, _, _, _, by omega, hc, hcc, by omega, rfl, Nat.xor_lt_two_pow l0 (hw _), Nat.xor_lt_two_pow l1 (hw _), Nat.xor_lt_two_pow l2 (hw _), Nat.xor_lt_two_pow l3 (hw _), hF, folds_step x hx hW⟩

/-- The four words joined: the second loop begins. -/
theorem rel2_start {x : Nat → Nat} {b off len cap q n c o : Nat} {w W : World} {x0 x1 x2 x3 : Nat} (A : q + n = len ∧ x0 < 2 ^ 64 ∧ x1 < 2 ^ 64 ∧ x2 < 2 ^ 64 ∧ x3 < 2 ^ 64 ∧ Folds x q x0 x1 x2 x3)
    (hc : n ≤ c) (hcc : c ≤ cap) (ho : n = 0 ∨ o = off + q) (hb : Below w.heap.size w W) :
    Rel2 x b off len cap w n (.slice (some ⟨b, o, none⟩) n c) (.int .u64 (bits .xor .u64 (bits .xor .u64 (bits .xor .u64 (x0 : Int) (x1 : Int)) (x2 : Int)) (x3 : Int))) W := by
  obtain ⟨h1, l0, l1, l2, l3, hW⟩ := A
  have l01 := Nat.xor_lt_two_pow l0 l1
  have l012 := Nat.xor_lt_two_pow l01 l2
  rw [xor_u64 _ _ l0 l1, xor_u64 _ _ l01 l2, xor_u64 _ _ l012 l3]
  exact ⟨q, c, o, _, h1, hc, hcc, ho, rfl, rfl, Nat.xor_lt_two_pow l012 l3, hb, hW⟩

/-- A round of the second loop hands its relation on. -/
theorem rel2_step {x : Nat → Nat} {b off len cap q n o n' c' y : Nat} {w W1 : World} (hx : ∀ j, x j < 256) (A : q + n = len ∧ y < 2 ^ 64 ∧ Fold x q y)
    (hn : n = n' + 8) (hc : n' ≤ c') (hcc : c' ≤ cap) (ho : n' = 0 ∨ o = off + q + 8) (hb : Below w.heap.size w W1) :
    Rel2 x b off len cap w n' (.slice (some ⟨b, o, none⟩) n' c') (.int .u64 (bits .xor .u64 (y : Int) ((wordAt x q : Nat) : Int))) W1 := by
  obtain ⟨h1, l, hF⟩ := A
  have hw := wordAt_lt x hx q
  rw [xor_u64 _ _ l hw]
  exact ⟨q + 8, c', o, _, by omega, hc, hcc, by omega, rfl, rfl, Nat.xor_lt_two_pow l hw, hb, fold_step x hx hF⟩

/-- 'x ^= x >> n', as the walk spells it. -/
theorem shx_walk (n v : Nat) (d : Int) (hd : d = 2 ^ n) (h : v < 2 ^ 64) : bits .xor .u64 (v : Int) ((v : Int) / d) = ((shx n v : Nat) : Int) := by
  subst hd
  have e : ((v : Int) / 2 ^ n) = ((v >>> n : Nat) : Int) := by rw [Nat.shiftRight_eq_div_pow]; simp
  have hl : v >>> n < 2 ^ 64 := Nat.lt_of_le_of_lt (by rw [Nat.shiftRight_eq_div_pow]; exact Nat.div_le_self _ _) h
  rw [e, xor_u64 _ _ h hl]
  rfl

end Go.Proofs.Ybulkucu
