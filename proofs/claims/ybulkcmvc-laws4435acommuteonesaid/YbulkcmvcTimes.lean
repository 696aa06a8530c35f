import Derived.Test.YbulkcmvcBits
import Derived.Test.YbulkcmvcMul
import Derived.WalkKit
import Derived.WalkSpells
import Derived.Outline
import Derived.BigQuiet
import Derived.Deep.QuietTactic
namespace Go.Proofs.Ybulkcmvc
open Go.RowKit

theorem below_dn {B n : Nat} {a w : World} (h : Below B a w) : Below B a (w.drewN n) := ⟨h.os, h.tape, h.output, h.size, h.block⟩
theorem setCell_drewN' (w : World) (n : Nat) (a : Addr) (v : Value) : (w.drewN n).setCell a v = (w.setCell a v).drewN n := rfl

def revc (r : Nat → Int) : Nat → Obj
  | 0 => .cells #[.int .u64 (r 0), .int .u64 (r 1), .int .u64 (r 2), .int .u64 (r 3), .int .u64 (r 4), .int .u64 (r 5)] 24
  | 1 => .cells #[.int .u64 (r 5), .int .u64 (r 1), .int .u64 (r 2), .int .u64 (r 3), .int .u64 (r 4), .int .u64 (r 0)] 24
  | 2 => .cells #[.int .u64 (r 5), .int .u64 (r 4), .int .u64 (r 2), .int .u64 (r 3), .int .u64 (r 1), .int .u64 (r 0)] 24
  | _ => .cells #[.int .u64 (r 5), .int .u64 (r 4), .int .u64 (r 3), .int .u64 (r 2), .int .u64 (r 1), .int .u64 (r 0)] 24

set_option maxHeartbeats 1000000 in
theorem reverse6 (W : World) (r : Nat → Int) (q b : Nat) (hb : W.heap.size = b) :
    Calls Yba.prog 20 #[.slice (some ⟨b, 0, none⟩) 6 6] ((W.alloc (revc r 0)).drewN q) fun e w' => e = .returned (.tuple #[]) ∧ ∃ n, w' = (W.alloc (revc r 3)).drewN n := by
  subst hb
  go_enter Yba.func20, Yba.ntmps20
  go_wp2
  go_loopw [2, 3] (fun vi vj wr => ∃ (k n : Nat), k ≤ 3 ∧ vi = .int .i64 k ∧ vj = .int .i64 (5 - k) ∧ wr = (W.alloc (revc r k)).drewN n) (fun vi _ _ => 3 - (intOf vi).toNat)
  case atStart => exact ⟨0, q, by omega, rfl, rfl, rfl⟩
  case round =>
    obtain ⟨k, n, hk, rfl, rfl, rfl⟩ := hrel
    rcases (show k = 0 ∨ k = 1 ∨ k = 2 ∨ k = 3 by omega) with rfl | rfl | rfl | rfl
    · unfold revc
      go_wp2
      go_region
      all_goals go_wp2
      all_goals go_roundw
      case rel => exact ⟨1, n + 1, by omega, rfl, rfl, by simp [setCell_drewN', go_sem]⟩
      case measure => simp [intOf]
    · unfold revc
      go_wp2
      go_region
      all_goals go_wp2
      all_goals go_roundw
      case rel => exact ⟨2, n + 1, by omega, rfl, rfl, by simp [setCell_drewN', go_sem]⟩
      case measure => simp [intOf]
    · unfold revc
      go_wp2
      go_region
      all_goals go_wp2
      all_goals go_roundw
      case rel => exact ⟨3, n + 1, by omega, rfl, rfl, by simp [setCell_drewN', go_sem]⟩
      case measure => simp [intOf]
    · go_wp2
      go_end0
      exact ⟨rfl, n, rfl⟩
/-- math/bits.Mul64, what it answers under names. -/
theorem mul64' (x y hi lo : Int) (hx : 0 ≤ x) (hx' : x < 18446744073709551616) (hy : 0 ≤ y) (hy' : y < 18446744073709551616) (h1 : Hid (x * y / 18446744073709551616 = hi)) (h2 : Hid (x * y % 18446744073709551616 = lo)) (w : World) :
    Calls Yba.prog 18 #[.int .u64 x, .int .u64 y] w fun e w' => e = .returned (.tuple #[.int .u64 hi, .int .u64 lo]) ∧ w' = w := by
  have e1 := h1.out; have e2 := h2.out
  subst e1; subst e2
  exact mul64 x y hx hx' hy hy' w

def R (w : World) (S T f : Nat → Int) : World :=
  (((w.alloc (.cells #[.int .u64 (S 2), .int .u64 (S 1), .int .u64 (S 0)] 25)).alloc (.cells #[.int .u64 (T 2), .int .u64 (T 1), .int .u64 (T 0)] 25)).alloc
    (.cells #[.int .u64 0, .int .u64 0, .int .u64 0, .int .u64 0, .int .u64 0, .int .u64 0] 24)).alloc (.cells #[.int .u64 (f 0), .int .u64 (f 1), .int .u64 (f 2), .int .u64 (f 3), .int .u64 (f 4), .int .u64 (f 5)] 24)

theorem R_s (w : World) (S T f : Nat → Int) (i : Nat) (hi : i < 3) : (R w S T f).cell? ⟨w.heap.size, 2 - i, none⟩ = some (.int .u64 (S i)) := by
  rcases (show i = 0 ∨ i = 1 ∨ i = 2 by omega) with rfl | rfl | rfl <;> simp [R, go_sem]
theorem R_t (w : World) (S T f : Nat → Int) (i : Nat) (hi : i < 3) : (R w S T f).cell? ⟨w.heap.size + 1, 2 - i, none⟩ = some (.int .u64 (T i)) := by
  rcases (show i = 0 ∨ i = 1 ∨ i = 2 by omega) with rfl | rfl | rfl <;> simp [R, go_sem]
theorem R_r (w : World) (S T f : Nat → Int) (i : Nat) (hi : i < 6) : (R w S T f).cell? ⟨w.heap.size + 1 + 1 + 1, i, none⟩ = some (.int .u64 (f i)) := by
  rcases (show i = 0 ∨ i = 1 ∨ i = 2 ∨ i = 3 ∨ i = 4 ∨ i = 5 by omega) with rfl | rfl | rfl | rfl | rfl | rfl <;> simp [R, go_sem]
theorem R_z (w : World) (S T f : Nat → Int) (i : Nat) : (R w S T f).frozen? ⟨w.heap.size + 1 + 1 + 1, i, none⟩ = false := by
  simp [R, go_sem]
theorem R_set (w : World) (S T f : Nat → Int) (i : Nat) (hi : i < 6) (x : Int) : (R w S T f).setCell ⟨w.heap.size + 1 + 1 + 1, i, none⟩ (.int .u64 x) = R w S T (Mul.upd f i x) := by
  rcases (show i = 0 ∨ i = 1 ∨ i = 2 ∨ i = 3 ∨ i = 4 ∨ i = 5 by omega) with rfl | rfl | rfl | rfl | rfl | rfl <;> simp [R, go_sem, Mul.upd]

theorem R_set_drew (w : World) (S T f : Nat → Int) (q n i : Nat) (hi : i < 6) (x : Int) : (((R w S T f).drewN q).drewN n).setCell ⟨w.heap.size + 1 + 1 + 1, i, none⟩ (.int .u64 x) = (R w S T (Mul.upd f i x)).drewN (q + n) := by
  rw [← R_set w S T f i hi x, World.drewN_drewN]; rfl
theorem R_set_drew1 (w : World) (S T f : Nat → Int) (q i : Nat) (hi : i < 6) (x : Int) : ((R w S T f).drewN q).setCell ⟨w.heap.size + 1 + 1 + 1, i, none⟩ (.int .u64 x) = (R w S T (Mul.upd f i x)).drewN q := by
  rw [← R_set w S T f i hi x]; rfl
theorem fold_hi (p hi lo x c : Int) (h1 : p / 18446744073709551616 = hi) (h2 : p % 18446744073709551616 = lo) (hp : 0 ≤ p + x + c ∧ p + x + c < 18446744073709551616 * 18446744073709551616) (hx : 0 ≤ x) (hc : 0 ≤ c) (hp0 : 0 ≤ p) :
    IntKind.u64.wrap (IntKind.u64.wrap (hi + (lo + x) / 18446744073709551616) + ((lo + x) % 18446744073709551616 + c) / 18446744073709551616) = (p + x + c) / 18446744073709551616 := by
  rw [IntKind.wrap_u64, IntKind.wrap_u64]; omega
theorem fold_lo (p lo x c : Int) (h2 : p % 18446744073709551616 = lo) : (lo + x + c) % 18446744073709551616 = (p + x + c) % 18446744073709551616 := by omega

set_option maxHeartbeats 1000000 in
theorem times_grows (S T : Nat → Int) (hS : Mul.Dig 18446744073709551616 S 3) (hT : Mul.Dig 18446744073709551616 T 3) (w : World) :
    Calls Yba.prog 7 #[.agg #[.int .u64 (S 2), .int .u64 (S 1), .int .u64 (S 0)], .agg #[.int .u64 (T 2), .int .u64 (T 1), .int .u64 (T 0)]] w fun e w' =>
      ∃ f : Nat → Int, e = .returned (.agg #[.int .u64 (f 5), .int .u64 (f 4), .int .u64 (f 3), .int .u64 (f 2), .int .u64 (f 1), .int .u64 (f 0)]) ∧ Mul.Dig 18446744073709551616 f 6 ∧ Mul.val 18446744073709551616 f 6 = Mul.val 18446744073709551616 S 3 * Mul.val 18446744073709551616 T 3 ∧ Below w.heap.size w w' ∧ w.heap.size + 4 ≤ w'.heap.size := by
  go_enter Yba.func7, Yba.ntmps7
  go_wp2
  go_loopw [12] (fun vi wr => ∃ (i q : Nat) (f : Nat → Int), vi = .int .i64 i ∧ i ≤ 3 ∧ Mul.Inv 18446744073709551616 3 S T i 0 f 0 ∧ wr = (R w S T f).drewN q) (fun vi _ => 3 - (intOf vi).toNat)
  case atStart => exact ⟨0, 0, fun _ => 0, rfl, by omega, Mul.Inv.start _ (by decide) _ _ _, rfl⟩
  case round =>
    obtain ⟨i, q, f, rfl, hi, hI, rfl⟩ := hrel
    by_cases hi3 : i < 3
    · have hd : decide ((i : Int) < 3) = true := by simp; omega
      go_wp2
      go_loopw [15, 7] (fun vj vc wr => ∃ (j q : Nat) (c : Int) (f : Nat → Int), vj = .int .i64 j ∧ vc = .int .u64 c ∧ j ≤ 3 ∧ Mul.Inv 18446744073709551616 3 S T i j f c ∧ wr = (R w S T f).drewN q) (fun vj _ _ => 3 - (intOf vj).toNat)
      case atStart => exact ⟨0, q, 0, f, rfl, rfl, by omega, hI, rfl⟩
      case round =>
        obtain ⟨j, q, c, f, rfl, rfl, hj, hI, hwr⟩ := hrel
        by_cases hj3 : j < 3
        · have hs1 := hS i hi3
          have ht1 := hT j hj3
          have hf1 := hI.dig (i + j) (by omega)
          have hc0 := hI.c0
          have hc1 := hI.c1
          obtain ⟨hi_, H1⟩ : ∃ h, Hid (S i * T j / 18446744073709551616 = h) := ⟨_, rfl⟩
          obtain ⟨lo_, H2⟩ : ∃ h, Hid (S i * T j % 18446744073709551616 = h) := ⟨_, rfl⟩
          obtain ⟨x_, H3⟩ : ∃ h, Hid (f (i + j) = h) := ⟨_, rfl⟩
          have hlo : 0 ≤ lo_ := by rw [← H2.out]; omega
          have hx0 : 0 ≤ x_ := by rw [← H3.out]; omega
          have hcs : wr.cell? ⟨w.heap.size, 2 - i, none⟩ = some (.int .u64 (S i)) := by rw [hwr]; exact R_s _ _ _ _ _ hi3
          have hct : wr.cell? ⟨w.heap.size + 1, 2 - j, none⟩ = some (.int .u64 (T j)) := by rw [hwr]; exact R_t _ _ _ _ _ hj3
          have hcr : wr.cell? ⟨w.heap.size + 1 + 1 + 1, i + j, none⟩ = some (.int .u64 x_) := by rw [hwr, ← H3.out]; exact R_r _ _ _ _ _ (by omega)
          have hfr : wr.frozen? ⟨w.heap.size + 1 + 1 + 1, i + j, none⟩ = false := by rw [hwr]; exact R_z _ _ _ _ _
          have HW : Hid (wr = (R w S T f).drewN q) := hwr
          have b1 : (0 : Int) ≤ 2 - (i : Int) := by omega
          have b2 : 2 - (i : Int) < 3 := by omega
          have b3 : (0 : Int) ≤ 2 - (j : Int) := by omega
          have b4 : 2 - (j : Int) < 3 := by omega
          have b5 : (i : Int) + (j : Int) < 6 := by omega
          have k1 := hs1.1; have k2 := hs1.2; have k3 := ht1.1; have k4 := ht1.2
          have HI : Hid (Mul.Inv 18446744073709551616 3 S T i j f c) := hI
          have hm : 0 ≤ (lo_ + x_) % 18446744073709551616 := by omega
          clear hwr hI hs1 ht1 hf1
          go_wp2
          go_quiet ((go_at_call 18; exact Calls.quiet_of_same (mul64' _ _ hi_ lo_ k1 k2 k3 k4 H1 H2 _)))
          go_wp2_with (first | simp only [add64_0 lo_ x_ hlo hx0] | simp only [add64_0 _ c hm hc0])
          go_roundw
          case rel =>
            have hI := HI.out
            refine ⟨j + 1, q + nq, _, _, by go_num, rfl, by omega, ?_, by rw [HW.out]; exact R_set_drew _ _ _ _ _ _ _ (by omega) _⟩
            have hb := Mul.X_bd (hS i hi3) (hT j hj3) (hI.dig (i + j) (by omega)) ⟨hI.c0, hI.c1⟩
            rw [← H3.out, fold_lo (S i * T j) lo_ (f (i + j)) c H2.out, fold_hi (S i * T j) hi_ lo_ (f (i + j)) c H1.out H2.out hb (hI.dig (i + j) (by omega)).1 hI.c0 (Int.mul_nonneg k1 k3)]
            exact Mul.Inv.step (by decide) hS hT hi3 hj3 hI
          case measure => simp [intOf]; omega
        · obtain rfl : j = 3 := by omega
          have hfr : wr.frozen? ⟨w.heap.size + 1 + 1 + 1, i + 3, none⟩ = false := by rw [hwr]; exact R_z _ _ _ _ _
          have hcr : wr.cell? ⟨w.heap.size + 1 + 1 + 1, i + 3, none⟩ = some (.int .u64 (f (i + 3))) := by rw [hwr]; exact R_r _ _ _ _ _ (by omega)
          have HW : Hid (wr = (R w S T f).drewN q) := hwr
          have HI : Hid (Mul.Inv 18446744073709551616 3 S T i 3 f c) := hI
          have b5 : (i : Int) + 3 < 6 := by omega
          clear hwr hI
          go_wp2
          go_roundw
          case rel => exact ⟨i + 1, q, _, by go_num, by omega, Mul.Inv.row (by decide) hi3 HI.out, by rw [HW.out]; exact R_set_drew1 _ _ _ _ _ _ (by omega) _⟩
          case measure => simp [intOf]; omega
    · obtain rfl : i = 3 := by omega
      unfold R
      go_wp2_with fail
      refine (reverse6 (((w.alloc (.cells #[.int .u64 (S 2), .int .u64 (S 1), .int .u64 (S 0)] 25)).alloc (.cells #[.int .u64 (T 2), .int .u64 (T 1), .int .u64 (T 0)] 25)).alloc
    (.cells #[.int .u64 0, .int .u64 0, .int .u64 0, .int .u64 0, .int .u64 0, .int .u64 0] 24)) f q _ (by simp)).mono ?_
      rintro e w' ⟨rfl, n, rfl⟩
      unfold revc
      go_wp2
      refine bodyPost_ret (v := .agg #[.int .u64 (f 5), .int .u64 (f 4), .int .u64 (f 3), .int .u64 (f 2), .int .u64 (f 1), .int .u64 (f 0)]) (by simp [results, Yba.results7, go_sem]) rfl ⟨f, rfl, hI.dig, hI.done, ?_, by simp⟩
      repeat' (first | with_reducible exact Below.refl _ _ | with_reducible apply below_dn | with_reducible apply Below.setCell | with_reducible apply Below.alloc)
      all_goals (simp <;> omega)

theorem times_any (S T : Nat → Int) (hS : Mul.Dig 18446744073709551616 S 3) (hT : Mul.Dig 18446744073709551616 T 3) (w : World) :
    Calls Yba.prog 7 #[.agg #[.int .u64 (S 2), .int .u64 (S 1), .int .u64 (S 0)], .agg #[.int .u64 (T 2), .int .u64 (T 1), .int .u64 (T 0)]] w fun e w' =>
      ∃ f : Nat → Int, e = .returned (.agg #[.int .u64 (f 5), .int .u64 (f 4), .int .u64 (f 3), .int .u64 (f 2), .int .u64 (f 1), .int .u64 (f 0)]) ∧ Mul.Dig 18446744073709551616 f 6 ∧ Mul.val 18446744073709551616 f 6 = Mul.val 18446744073709551616 S 3 * Mul.val 18446744073709551616 T 3 ∧ Below w.heap.size w w' :=
  (times_grows S T hS hT w).mono fun _ _ ⟨f, h1, h2, h3, h4, _⟩ => ⟨f, h1, h2, h3, h4⟩
end Go.Proofs.Ybulkcmvc
