import Derived.Test.YbulkcmvcTimes
import Derived.WalkKit
import Derived.WalkSpells
import Derived.Outline
import Derived.BigQuiet
import Derived.Deep.QuietTactic
namespace Go.Proofs.Ybulkcmvc
open Go.RowKit

def six (f : Nat → Int) : Obj := .cells #[.int .u64 (f 0), .int .u64 (f 1), .int .u64 (f 2), .int .u64 (f 3), .int .u64 (f 4), .int .u64 (f 5)] 24
def twelve (f : Nat → Int) : Obj := .cells #[.int .u64 (f 0), .int .u64 (f 1), .int .u64 (f 2), .int .u64 (f 3), .int .u64 (f 4), .int .u64 (f 5), .int .u64 (f 6), .int .u64 (f 7), .int .u64 (f 8), .int .u64 (f 9), .int .u64 (f 10), .int .u64 (f 11)] 78
def M1 (w : World) (S T A B : Nat → Int) : World :=
  ((((w.alloc (.cells #[.int .u64 (S 2), .int .u64 (S 1), .int .u64 (S 0)] 25)).alloc (.cells #[.int .u64 (T 2), .int .u64 (T 1), .int .u64 (T 0)] 25)).alloc
    (.cells #[.int .u64 0, .int .u64 0, .int .u64 0, .int .u64 0, .int .u64 0, .int .u64 0] 24)).alloc (six A)).alloc (six B)
def M2 (w : World) (S T A B f : Nat → Int) : World := (M1 w S T A B).alloc (twelve f)
def M3 (w : World) (S T A B f g : Nat → Int) : World := (M2 w S T A B f).alloc (six g)
/-- limb k of S, of 32 bits. -/
def limb (S : Nat → Int) (k : Nat) : Int := (if k % 2 = 0 then S (k / 2) else S (k / 2) / 4294967296) % 4294967296
def part (k : Nat) (f : Nat → Int) (m : Nat) : Int := if m < k then f m else 0
theorem maskI (a : Int) (h0 : 0 ≤ a) (h : a < 18446744073709551616) : bits .and .u64 a 4294967295 = a % 4294967296 := by
  obtain ⟨n, rfl⟩ := Int.eq_ofNat_of_zero_le h0
  rw [Mul64.maskN n (by omega)]; omega

theorem M2_a (w : World) (S T A B f : Nat → Int) (i : Nat) (hi : i < 6) : (M2 w S T A B f).cell? ⟨w.heap.size + 1 + 1 + 1, i, none⟩ = some (.int .u64 (A i)) := by
  rcases (show i = 0 ∨ i = 1 ∨ i = 2 ∨ i = 3 ∨ i = 4 ∨ i = 5 by omega) with rfl | rfl | rfl | rfl | rfl | rfl <;> simp [M2, M1, six, twelve, go_sem]
theorem M2_b (w : World) (S T A B f : Nat → Int) (i : Nat) (hi : i < 6) : (M2 w S T A B f).cell? ⟨w.heap.size + 1 + 1 + 1 + 1, i, none⟩ = some (.int .u64 (B i)) := by
  rcases (show i = 0 ∨ i = 1 ∨ i = 2 ∨ i = 3 ∨ i = 4 ∨ i = 5 by omega) with rfl | rfl | rfl | rfl | rfl | rfl <;> simp [M2, M1, six, twelve, go_sem]
theorem tw {P : Nat → Prop} (h : P 0 ∧ P 1 ∧ P 2 ∧ P 3 ∧ P 4 ∧ P 5 ∧ P 6 ∧ P 7 ∧ P 8 ∧ P 9 ∧ P 10 ∧ P 11) (i : Nat) (hi : i < 12) : P i := by
  rcases (show i = 0 ∨ i = 1 ∨ i = 2 ∨ i = 3 ∨ i = 4 ∨ i = 5 ∨ i = 6 ∨ i = 7 ∨ i = 8 ∨ i = 9 ∨ i = 10 ∨ i = 11 by omega) with rfl | rfl | rfl | rfl | rfl | rfl | rfl | rfl | rfl | rfl | rfl | rfl <;> simp only [h]
theorem M2_r (w : World) (S T A B f : Nat → Int) (i : Nat) (hi : i < 12) : (M2 w S T A B f).cell? ⟨w.heap.size + 1 + 1 + 1 + 1 + 1, i, none⟩ = some (.int .u64 (f i)) := by
  refine tw (P := fun i => (M2 w S T A B f).cell? ⟨w.heap.size + 1 + 1 + 1 + 1 + 1, i, none⟩ = some (.int .u64 (f i))) ?_ i hi
  simp [M2, M1, six, twelve, go_sem]
theorem M2_z (w : World) (S T A B f : Nat → Int) (i : Nat) : (M2 w S T A B f).frozen? ⟨w.heap.size + 1 + 1 + 1 + 1 + 1, i, none⟩ = false := by
  simp [M2, M1, six, twelve, go_sem]
theorem M2_set (w : World) (S T A B f : Nat → Int) (i : Nat) (hi : i < 12) (x : Int) : (M2 w S T A B f).setCell ⟨w.heap.size + 1 + 1 + 1 + 1 + 1, i, none⟩ (.int .u64 x) = M2 w S T A B (Mul.upd f i x) := by
  refine tw (P := fun i => (M2 w S T A B f).setCell ⟨w.heap.size + 1 + 1 + 1 + 1 + 1, i, none⟩ (.int .u64 x) = M2 w S T A B (Mul.upd f i x)) ?_ i hi
  simp [M2, M1, six, twelve, go_sem, Mul.upd]
theorem M2_set_drew (w : World) (S T A B f : Nat → Int) (q n i : Nat) (hi : i < 12) (x : Int) : (((M2 w S T A B f).drewN q).drewN n).setCell ⟨w.heap.size + 1 + 1 + 1 + 1 + 1, i, none⟩ (.int .u64 x) = (M2 w S T A B (Mul.upd f i x)).drewN (q + n) := by
  rw [← M2_set w S T A B f i hi x, World.drewN_drewN]; rfl
theorem M2_set_drew1 (w : World) (S T A B f : Nat → Int) (q i : Nat) (hi : i < 12) (x : Int) : ((M2 w S T A B f).drewN q).setCell ⟨w.heap.size + 1 + 1 + 1 + 1 + 1, i, none⟩ (.int .u64 x) = (M2 w S T A B (Mul.upd f i x)).drewN q := by
  rw [← M2_set w S T A B f i hi x]; rfl

theorem wrap3 (x y z c : Int) (hx : 0 ≤ x ∧ x < 4294967296) (hy : 0 ≤ y ∧ y < 4294967296) (hz : 0 ≤ z ∧ z < 4294967296) (hc : 0 ≤ c ∧ c < 4294967296) :
    IntKind.u64.wrap (IntKind.u64.wrap (IntKind.u64.wrap (x * y) + z) + c) = x * y + z + c := by
  have h := Mul.X_bd hx hy hz hc
  have h0 := Int.mul_nonneg hx.1 hy.1
  rw [IntKind.wrap_u64, IntKind.wrap_u64, IntKind.wrap_u64]
  generalize x * y = p at *
  omega
theorem limb_dig (S : Nat → Int) : Mul.Dig 4294967296 (limb S) 6 := by
  intro k _; unfold limb; split <;> omega
/-- word m of the product, out of its halves. -/
def word (f : Nat → Int) (m : Nat) : Int := f (2 * m) + f (2 * m + 1) * 4294967296
def outp (f : Nat → Int) (k m : Nat) : Int := if 5 - m < k then word f (5 - m) else 0
theorem six_congr {f g : Nat → Int} (h : ∀ m, m < 6 → f m = g m) : six f = six g := by
  unfold six
  rw [h 0 (by omega), h 1 (by omega), h 2 (by omega), h 3 (by omega), h 4 (by omega), h 5 (by omega)]
theorem orI (a b : Int) (ha : 0 ≤ a) (ha' : a < 4294967296) (hb : 0 ≤ b) (hb' : b < 4294967296) : bits .or .u64 a (IntKind.u64.wrap (b * 4294967296)) = a + b * 4294967296 := by
  obtain ⟨n, rfl⟩ := Int.eq_ofNat_of_zero_le ha
  obtain ⟨m, rfl⟩ := Int.eq_ofNat_of_zero_le hb
  have e : IntKind.u64.wrap ((m : Int) * 4294967296) = ((m <<< 32 : Nat) : Int) := by
    rw [IntKind.wrap_u64, Nat.shiftLeft_eq]; omega
  rw [e]
  have h := bits_or_u64_nat n (m <<< 32) (by omega) (by rw [Nat.shiftLeft_eq]; omega)
  rw [h, Nat.or_comm, ← Nat.shiftLeft_add_eq_or_of_lt (by omega), Nat.shiftLeft_eq]
  omega
theorem M3_r (w : World) (S T A B f g : Nat → Int) (i : Nat) (hi : i < 12) : (M3 w S T A B f g).cell? ⟨w.heap.size + 1 + 1 + 1 + 1 + 1, i, none⟩ = some (.int .u64 (f i)) := by
  refine tw (P := fun i => (M3 w S T A B f g).cell? ⟨w.heap.size + 1 + 1 + 1 + 1 + 1, i, none⟩ = some (.int .u64 (f i))) ?_ i hi
  simp [M3, M2, M1, six, twelve, go_sem]
theorem M3_g (w : World) (S T A B f g : Nat → Int) (i : Nat) (hi : i < 6) : (M3 w S T A B f g).cell? ⟨w.heap.size + 1 + 1 + 1 + 1 + 1 + 1, i, none⟩ = some (.int .u64 (g i)) := by
  rcases (show i = 0 ∨ i = 1 ∨ i = 2 ∨ i = 3 ∨ i = 4 ∨ i = 5 by omega) with rfl | rfl | rfl | rfl | rfl | rfl <;> simp [M3, M2, M1, six, twelve, go_sem]
theorem M3_z (w : World) (S T A B f g : Nat → Int) (i : Nat) : (M3 w S T A B f g).frozen? ⟨w.heap.size + 1 + 1 + 1 + 1 + 1 + 1, i, none⟩ = false := by
  simp [M3, M2, M1, six, twelve, go_sem]
theorem M3_set (w : World) (S T A B f g : Nat → Int) (i : Nat) (hi : i < 6) (x : Int) : (M3 w S T A B f g).setCell ⟨w.heap.size + 1 + 1 + 1 + 1 + 1 + 1, i, none⟩ (.int .u64 x) = M3 w S T A B f (Mul.upd g i x) := by
  rcases (show i = 0 ∨ i = 1 ∨ i = 2 ∨ i = 3 ∨ i = 4 ∨ i = 5 by omega) with rfl | rfl | rfl | rfl | rfl | rfl <;> simp [M3, M2, M1, six, twelve, go_sem, Mul.upd]
theorem outp_step (f : Nat → Int) (k : Nat) (hk : k < 6) (m : Nat) (hm : m < 6) : Mul.upd (outp f k) (5 - k) (word f k) m = outp f (k + 1) m := by
  unfold Mul.upd outp
  by_cases h : m = 5 - k
  · subst h
    rw [if_pos rfl, if_pos (by omega), show 5 - (5 - k) = k by omega]
  · rw [if_neg h]
    by_cases h2 : 5 - m < k
    · rw [if_pos h2, if_pos (by omega)]
    · rw [if_neg h2, if_neg (by omega)]
theorem M3_set_drew (w : World) (S T A B f : Nat → Int) (q k : Nat) (hk : k < 6) (x : Int) (hx : x = word f k) : (((M3 w S T A B f (outp f k)).drewN q).setCell ⟨w.heap.size + 1 + 1 + 1 + 1 + 1 + 1, 5 - k, none⟩ (.int .u64 x)).drew = (M3 w S T A B f (outp f (k + 1))).drewN (q + 1) := by
  subst hx
  have e : M3 w S T A B f (outp f (k + 1)) = M3 w S T A B f (Mul.upd (outp f k) (5 - k) (word f k)) := by
    unfold M3; rw [six_congr fun m hm => outp_step f k hk m hm]
  rw [e, ← M3_set w S T A B f _ (5 - k) (by omega)]; rfl
theorem limb_val (S : Nat → Int) (hS : Mul.Dig 18446744073709551616 S 3) : Mul.val 4294967296 (limb S) 6 = Mul.val 18446744073709551616 S 3 := by
  have h := Mul.val_pair 4294967296 (limb S) 3
  rw [show (2 * 3 : Nat) = 6 from rfl, show (4294967296 * 4294967296 : Int) = 18446744073709551616 from rfl] at h
  rw [h]
  refine Mul.val_congr _ 3 fun k hk => ?_
  have := hS k hk
  unfold limb
  rw [if_pos (by omega), if_neg (by omega), show 2 * k / 2 = k by omega, show (2 * k + 1) / 2 = k by omega]
  omega
theorem word_val (f : Nat → Int) : Mul.val 18446744073709551616 (word f) 6 = Mul.val 4294967296 f 12 := (Mul.val_pair 4294967296 f 6).symm
theorem word_dig (f : Nat → Int) (h : Mul.Dig 4294967296 f 12) : Mul.Dig 18446744073709551616 (word f) 6 := by
  intro k hk
  have h1 := h (2 * k) (by omega)
  have h2 := h (2 * k + 1) (by omega)
  unfold word; omega

set_option maxHeartbeats 2000000 in
theorem model_any (S T : Nat → Int) (hS : Mul.Dig 18446744073709551616 S 3) (hT : Mul.Dig 18446744073709551616 T 3) (w : World) :
    Calls Yba.prog 8 #[.agg #[.int .u64 (S 2), .int .u64 (S 1), .int .u64 (S 0)], .agg #[.int .u64 (T 2), .int .u64 (T 1), .int .u64 (T 0)]] w fun e w' =>
      ∃ f : Nat → Int, e = .returned (.agg #[.int .u64 (f 5), .int .u64 (f 4), .int .u64 (f 3), .int .u64 (f 2), .int .u64 (f 1), .int .u64 (f 0)]) ∧ Mul.Dig 18446744073709551616 f 6 ∧ Mul.val 18446744073709551616 f 6 = Mul.val 18446744073709551616 S 3 * Mul.val 18446744073709551616 T 3 ∧ Below w.heap.size w w' := by
  have s0 := hS 0 (by omega); have s1 := hS 1 (by omega); have s2 := hS 2 (by omega)
  have t0 := hT 0 (by omega); have t1 := hT 1 (by omega); have t2 := hT 2 (by omega)
  go_enter Yba.func8, Yba.ntmps8
  go_wp2
  go_loopw [7] (fun vk wr => ∃ (k : Nat), vk = .int .i64 k ∧ k ≤ 6 ∧ wr = M1 w S T (part k (limb S)) (part k (limb T))) (fun vk _ => 6 - (intOf vk).toNat)
  case atStart => exact ⟨0, rfl, by omega, rfl⟩
  case round =>
    obtain ⟨k, rfl, hk, rfl⟩ := hrel
    rcases (show k = 0 ∨ k = 1 ∨ k = 2 ∨ k = 3 ∨ k = 4 ∨ k = 5 ∨ k = 6 by omega) with rfl | rfl | rfl | rfl | rfl | rfl | rfl
    · unfold M1 six
      go_wp2
      go_roundw
      case rel => exact ⟨1, rfl, by omega, by rw [maskI (S 0) (by omega) (by omega), maskI (T 0) (by omega) (by omega)]; rfl⟩
      case measure => simp [intOf]
    · unfold M1 six
      go_wp2
      go_roundw
      case rel => exact ⟨2, rfl, by omega, by rw [maskI (S 0 / 4294967296) (by omega) (by omega), maskI (T 0 / 4294967296) (by omega) (by omega)]; rfl⟩
      case measure => simp [intOf]
    · unfold M1 six
      go_wp2
      go_roundw
      case rel => exact ⟨3, rfl, by omega, by rw [maskI (S 1) (by omega) (by omega), maskI (T 1) (by omega) (by omega)]; rfl⟩
      case measure => simp [intOf]
    · unfold M1 six
      go_wp2
      go_roundw
      case rel => exact ⟨4, rfl, by omega, by rw [maskI (S 1 / 4294967296) (by omega) (by omega), maskI (T 1 / 4294967296) (by omega) (by omega)]; rfl⟩
      case measure => simp [intOf]
    · unfold M1 six
      go_wp2
      go_roundw
      case rel => exact ⟨5, rfl, by omega, by rw [maskI (S 2) (by omega) (by omega), maskI (T 2) (by omega) (by omega)]; rfl⟩
      case measure => simp [intOf]
    · unfold M1 six
      go_wp2
      go_roundw
      case rel => exact ⟨6, rfl, by omega, by rw [maskI (S 2 / 4294967296) (by omega) (by omega), maskI (T 2 / 4294967296) (by omega) (by omega)]; rfl⟩
      case measure => simp [intOf]
    · clear s0 s1 s2 t0 t1 t2
      have hz1 : (M1 w S T (part 6 (limb S)) (part 6 (limb T))).heap.size = w.heap.size + 1 + 1 + 1 + 1 + 1 := by simp [M1]
      go_wp2
      go_loopw [9] (fun vi wr => ∃ (i q : Nat) (f : Nat → Int), vi = .int .i64 i ∧ i ≤ 6 ∧ Mul.Inv 4294967296 6 (limb S) (limb T) i 0 f 0 ∧ wr = (M2 w S T (part 6 (limb S)) (part 6 (limb T)) f).drewN q) (fun vi _ => 6 - (intOf vi).toNat)
      case atStart => exact ⟨0, 0, fun _ => 0, rfl, by omega, Mul.Inv.start _ (by decide) _ _ _, rfl⟩
      case round =>
        obtain ⟨i, q, f, rfl, hi, hI, rfl⟩ := hrel
        by_cases hi3 : i < 6
        · have hd : decide ((i : Int) < 6) = true := by simp; omega
          go_wp2
          go_loopw [11, 10] (fun vj vc wr => ∃ (j q : Nat) (c : Int) (f : Nat → Int), vj = .int .i64 j ∧ vc = .int .u64 c ∧ j ≤ 6 ∧ Mul.Inv 4294967296 6 (limb S) (limb T) i j f c ∧ wr = (M2 w S T (part 6 (limb S)) (part 6 (limb T)) f).drewN q) (fun vj _ _ => 6 - (intOf vj).toNat)
          case atStart => exact ⟨0, q, 0, f, rfl, rfl, by omega, hI, rfl⟩
          case round =>
            obtain ⟨j, q, c, f, rfl, rfl, hj, hI, hwr⟩ := hrel
            by_cases hj3 : j < 6
            · obtain ⟨x_, H1⟩ : ∃ h, Hid (limb S i = h) := ⟨_, rfl⟩
              obtain ⟨y_, H2⟩ : ∃ h, Hid (limb T j = h) := ⟨_, rfl⟩
              obtain ⟨z_, H3⟩ : ∃ h, Hid (f (i + j) = h) := ⟨_, rfl⟩
              have hca : wr.cell? ⟨w.heap.size + 1 + 1 + 1, i, none⟩ = some (.int .u64 x_) := by rw [hwr, ← H1.out]; refine (M2_a _ _ _ _ _ _ _ hi3).trans ?_; simp [part, hi3]
              have hcb : wr.cell? ⟨w.heap.size + 1 + 1 + 1 + 1, j, none⟩ = some (.int .u64 y_) := by rw [hwr, ← H2.out]; refine (M2_b _ _ _ _ _ _ _ hj3).trans ?_; simp [part, hj3]
              have hcr : wr.cell? ⟨w.heap.size + 1 + 1 + 1 + 1 + 1, i + j, none⟩ = some (.int .u64 z_) := by rw [hwr, ← H3.out]; exact M2_r _ _ _ _ _ _ _ (by omega)
              have hfr : wr.frozen? ⟨w.heap.size + 1 + 1 + 1 + 1 + 1, i + j, none⟩ = false := by rw [hwr]; exact M2_z _ _ _ _ _ _ _
              have HW : Hid (wr = (M2 w S T (part 6 (limb S)) (part 6 (limb T)) f).drewN q) := hwr
              have HI : Hid (Mul.Inv 4294967296 6 (limb S) (limb T) i j f c) := hI
              have b1 : (i : Int) < 6 := by omega
              have b2 : (j : Int) < 6 := by omega
              have b5 : (i : Int) + (j : Int) < 12 := by omega
              clear hwr hI
              go_wp2
              go_quiet (fail)
              go_wp2
              go_roundw
              case rel =>
                have hI := HI.out
                have hw3 := wrap3 (limb S i) (limb T j) (f (i + j)) c (limb_dig S i hi3) (limb_dig T j hj3) (hI.dig (i + j) (by omega)) ⟨hI.c0, hI.c1⟩
                have hb := Mul.X_bd (limb_dig S i hi3) (limb_dig T j hj3) (hI.dig (i + j) (by omega)) ⟨hI.c0, hI.c1⟩
                refine ⟨j + 1, q + nq, _, _, by go_num, rfl, by omega, ?_, by rw [HW.out]; exact M2_set_drew _ _ _ _ _ _ _ _ _ (by omega) _⟩
                rw [← H1.out, ← H2.out, ← H3.out, hw3, maskI _ hb.1 hb.2]
                exact Mul.Inv.step (by decide) (limb_dig S) (limb_dig T) hi3 hj3 hI
              case measure => simp [intOf]; omega
            · obtain rfl : j = 6 := by omega
              have hfr : wr.frozen? ⟨w.heap.size + 1 + 1 + 1 + 1 + 1, i + 6, none⟩ = false := by rw [hwr]; exact M2_z _ _ _ _ _ _ _
              have hcr : wr.cell? ⟨w.heap.size + 1 + 1 + 1 + 1 + 1, i + 6, none⟩ = some (.int .u64 (f (i + 6))) := by rw [hwr]; exact M2_r _ _ _ _ _ _ _ (by omega)
              have HW : Hid (wr = (M2 w S T (part 6 (limb S)) (part 6 (limb T)) f).drewN q) := hwr
              have HI : Hid (Mul.Inv 4294967296 6 (limb S) (limb T) i 6 f c) := hI
              have b5 : (i : Int) + 6 < 12 := by omega
              clear hwr hI
              go_wp2
              go_roundw
              case rel => exact ⟨i + 1, q, _, by go_num, by omega, Mul.Inv.row (by decide) hi3 HI.out, by rw [HW.out]; exact M2_set_drew1 _ _ _ _ _ _ _ _ (by omega) _⟩
              case measure => simp [intOf]; omega
        · obtain rfl : i = 6 := by omega
          have hz2 : (M2 w S T (part 6 (limb S)) (part 6 (limb T)) f).heap.size = w.heap.size + 1 + 1 + 1 + 1 + 1 + 1 := by simp [M2, M1]
          go_wp2
          go_loopw [14] (fun vk wr => ∃ (k q : Nat), vk = .int .i64 k ∧ k ≤ 6 ∧ wr = (M3 w S T (part 6 (limb S)) (part 6 (limb T)) f (outp f k)).drewN q) (fun vk _ => 6 - (intOf vk).toNat)
          case atStart => exact ⟨0, q, rfl, by omega, rfl⟩
          case round =>
            obtain ⟨k, q, rfl, hk, hwr⟩ := hrel
            by_cases hk6 : k < 6
            · obtain ⟨x_, H1⟩ : ∃ h, Hid (f (2 * k) = h) := ⟨_, rfl⟩
              obtain ⟨y_, H2⟩ : ∃ h, Hid (f (2 * k + 1) = h) := ⟨_, rfl⟩
              have hca : wr.cell? ⟨w.heap.size + 1 + 1 + 1 + 1 + 1, 2 * k, none⟩ = some (.int .u64 x_) := by rw [hwr, ← H1.out]; exact M3_r _ _ _ _ _ _ _ _ (by omega)
              have hcb : wr.cell? ⟨w.heap.size + 1 + 1 + 1 + 1 + 1, 2 * k + 1, none⟩ = some (.int .u64 y_) := by rw [hwr, ← H2.out]; exact M3_r _ _ _ _ _ _ _ _ (by omega)
              have hcr : wr.cell? ⟨w.heap.size + 1 + 1 + 1 + 1 + 1 + 1, 5 - k, none⟩ = some (.int .u64 (outp f k (5 - k))) := by rw [hwr]; exact M3_g _ _ _ _ _ _ _ _ (by omega)
              have hfr : wr.frozen? ⟨w.heap.size + 1 + 1 + 1 + 1 + 1 + 1, 5 - k, none⟩ = false := by rw [hwr]; exact M3_z _ _ _ _ _ _ _ _
              have HW : Hid (wr = (M3 w S T (part 6 (limb S)) (part 6 (limb T)) f (outp f k)).drewN q) := hwr
              have b1 : (k : Int) < 6 := by omega
              have b2 : (0 : Int) ≤ 5 - (k : Int) := by omega
              have b3 : 2 * (k : Int) < 12 := by omega
              have b4 : 2 * (k : Int) + 1 < 12 := by omega
              have b5 : 5 - (k : Int) < 6 := by omega
              clear hwr
              go_wp2
              go_region
              all_goals go_wp2
              all_goals go_roundw
              case rel =>
                refine ⟨k + 1, q + 1, by go_num, by omega, ?_⟩
                have d1 := hI.dig (2 * k) (by omega)
                have d2 := hI.dig (2 * k + 1) (by omega)
                rw [← H1.out, ← H2.out, orI _ _ d1.1 d1.2 d2.1 d2.2, HW.out]
                exact M3_set_drew _ _ _ _ _ _ _ _ hk6 _ rfl
              case measure => simp [intOf]; omega
            · obtain rfl : k = 6 := by omega
              subst hwr
              unfold M3 M2 M1 six twelve
              go_wp2
              refine bodyPost_ret (v := .agg #[.int .u64 (word f 5), .int .u64 (word f 4), .int .u64 (word f 3), .int .u64 (word f 2), .int .u64 (word f 1), .int .u64 (word f 0)]) (by simp [results, Yba.results8, go_sem, outp]) rfl ⟨word f, rfl, word_dig f hI.dig, ?_, ?_⟩
              · rw [word_val, ← limb_val S hS, ← limb_val T hT]; exact hI.done
              · repeat' (first | with_reducible exact Below.refl _ _ | with_reducible apply below_dn | with_reducible apply Below.setCell | with_reducible apply Below.alloc)
                all_goals (simp <;> omega)
end Go.Proofs.Ybulkcmvc
