/-
  slices.Compare at six words; the product's words as a function; 'times' as a contract for a region that draws.
-/
import Derived.Test.YbulkcmvcLaw1
import Derived.WalkKit
import Derived.WalkSpells
namespace Go.Proofs.Ybulkcmvc
open Go.RowKit

/-- cmp.Compare[uint64] of a number with itself. -/
theorem compare_same (x : Int) (w : World) : Calls Yba.prog 31 #[.int .u64 x, .int .u64 x] w fun e w' => e = .returned (.int .i64 0) ∧ w' = w := by
  go_enter Yba.func31, Yba.ntmps31
  go_wp2
  go_ret
  exact ⟨rfl, rfl⟩

/-- slices.Compare of two rows of six words that are the same. -/
theorem compare6 (b1 b2 : Nat) (g : Nat → Int) (w : World) (h1 : ∀ k, k < 6 → w.cell? ⟨b1, k, none⟩ = some (.int .u64 (g k))) (h2 : ∀ k, k < 6 → w.cell? ⟨b2, k, none⟩ = some (.int .u64 (g k))) :
    Calls Yba.prog 21 #[.slice (some ⟨b1, 0, none⟩) 6 6, .slice (some ⟨b2, 0, none⟩) 6 6] w fun e w' => e = .returned (.int .i64 0) ∧ w' = w := by
  go_enter Yba.func21, Yba.ntmps21
  go_wp2
  go_loop [11] (fun vi => ∃ k : Nat, k ≤ 6 ∧ vi = .int .i64 k) (fun vi => 6 - (intOf vi).toNat)
  case atStart => exact ⟨0, by omega, rfl⟩
  case round =>
    obtain ⟨k, hk, rfl⟩ := hrel
    by_cases hk6 : k < 6
    · have c1 := h1 k hk6
      have c2 := h2 k hk6
      have b1 : (k : Int) < 6 := by omega
      go_wp2_with (go_at_call 31; refine (compare_same _ _).mono ?_; rintro e w' ⟨rfl, rfl⟩)
      go_round
      case rel => exact ⟨k + 1, by omega, by go_num⟩
      case measure => simp [intOf]; omega
    · obtain rfl : k = 6 := by omega
      go_wp2
      go_ret
      exact ⟨rfl, rfl⟩

/-! ### the product's six words, as a function -/
def digs (b V : Int) (k : Nat) : Int := V / b ^ k % b
theorem mod_step (V P b : Int) (hp : 0 < P) : V % P + V / P % b * P = V % (P * b) := by
  have h1 := Int.mul_ediv_add_emod V P
  have h2 := Int.mul_ediv_add_emod (V / P) b
  have h3 := Int.mul_ediv_add_emod V (P * b)
  have h4 : V / (P * b) = V / P / b := by rw [Int.ediv_ediv_of_nonneg]; omega
  rw [h4] at h3
  grind
theorem val_digs {b : Int} (hb : 0 < b) (V : Int) (n : Nat) : Mul.val b (digs b V) n = V % b ^ n := by
  induction n with
  | zero => simp [Mul.val, Int.emod_one]
  | succ n ih =>
    rw [Mul.val, ih, digs, Int.pow_succ]
    exact mod_step V (b ^ n) b (Int.pow_pos hb)
/-- The six words of the product of two numbers of three words. -/
theorem prod_ex (S T : Nat → Int) (hS : Mul.Dig 18446744073709551616 S 3) (hT : Mul.Dig 18446744073709551616 T 3) :
    ∃ f : Nat → Int, Mul.Dig 18446744073709551616 f 6 ∧ Mul.val 18446744073709551616 f 6 = Mul.val 18446744073709551616 S 3 * Mul.val 18446744073709551616 T 3 := by
  have a := Mul.val_bd (by decide) 3 hS
  have b := Mul.val_bd (by decide) 3 hT
  refine ⟨digs 18446744073709551616 (Mul.val 18446744073709551616 S 3 * Mul.val 18446744073709551616 T 3), fun k _ => ⟨Int.emod_nonneg _ (by decide), Int.emod_lt_of_pos _ (by decide)⟩, ?_⟩
  rw [val_digs (by decide)]
  generalize Mul.val 18446744073709551616 S 3 = x at *
  generalize Mul.val 18446744073709551616 T 3 = y at *
  refine Int.emod_eq_of_lt (Int.mul_nonneg a.1 b.1) ?_
  rw [show (6 : Nat) = 3 + 3 from rfl, Int.pow_add]
  exact Int.lt_of_le_of_lt (Int.mul_le_mul_of_nonneg_left (Int.le_of_lt b.2) a.1) (Int.mul_lt_mul_of_pos_right a.2 (by decide))
theorem times_is (S T f : Nat → Int) (hS : Mul.Dig 18446744073709551616 S 3) (hT : Mul.Dig 18446744073709551616 T 3) (hd : Mul.Dig 18446744073709551616 f 6)
    (hv : Mul.val 18446744073709551616 f 6 = Mul.val 18446744073709551616 S 3 * Mul.val 18446744073709551616 T 3) (w : World) :
    Calls Yba.prog 7 #[.agg #[.int .u64 (S 2), .int .u64 (S 1), .int .u64 (S 0)], .agg #[.int .u64 (T 2), .int .u64 (T 1), .int .u64 (T 0)]] w fun e w' =>
      e = .returned (.agg #[.int .u64 (f 5), .int .u64 (f 4), .int .u64 (f 3), .int .u64 (f 2), .int .u64 (f 1), .int .u64 (f 0)]) ∧ Below w.heap.size w w' ∧ w.heap.size + 4 ≤ w'.heap.size := by
  refine (times_grows S T hS hT w).mono ?_
  rintro e w' ⟨g, rfl, hg, hgv, hb⟩
  have h := Mul.digits (by decide) 6 hg hd (hgv.trans hv.symm)
  rw [h 0 (by omega), h 1 (by omega), h 2 (by omega), h 3 (by omega), h 4 (by omega), h 5 (by omega)]
  exact ⟨rfl, hb⟩

/-- times, from a world X that has grown out of W: all that a region that draws wants of the world behind it. -/
theorem times_w (W X : World) (S T f : Nat → Int) (hS : Mul.Dig 18446744073709551616 S 3) (hT : Mul.Dig 18446744073709551616 T 3) (hd : Mul.Dig 18446744073709551616 f 6)
    (hv : Mul.val 18446744073709551616 f 6 = Mul.val 18446744073709551616 S 3 * Mul.val 18446744073709551616 T 3) (hX : Below W.heap.size W X) :
    Calls Yba.prog 7 #[.agg #[.int .u64 (S 2), .int .u64 (S 1), .int .u64 (S 0)], .agg #[.int .u64 (T 2), .int .u64 (T 1), .int .u64 (T 0)]] X fun e w' =>
      e = .returned (.agg #[.int .u64 (f 5), .int .u64 (f 4), .int .u64 (f 3), .int .u64 (f 2), .int .u64 (f 1), .int .u64 (f 0)]) ∧ Below W.heap.size W w' ∧ W.heap.size ≤ w'.heap.size ∧
      (∀ b o, b < X.heap.size → w'.cell? ⟨b, o, none⟩ = X.cell? ⟨b, o, none⟩) ∧ (∀ b o, b < X.heap.size → w'.frozen? ⟨b, o, none⟩ = X.frozen? ⟨b, o, none⟩) ∧ (∀ n, n < X.heap.size + 4 → n < w'.heap.size) ∧
      W.heap.size < w'.heap.size ∧ W.heap.size + 1 < w'.heap.size := by
  refine (times_is S T f hS hT hd hv X).mono ?_
  rintro e w' ⟨rfl, hb, hg⟩
  have h := hX.trans (hb.mono hX.size)
  have hs := hX.size
  exact ⟨rfl, h, h.size, fun b o hh => hb.cell (p := ⟨b, o, none⟩) hh, fun b o hh => hb.frozen (p := ⟨b, o, none⟩) hh, fun n hn => Nat.lt_of_lt_of_le hn hg, by omega, by omega⟩

end Go.Proofs.Ybulkcmvc
