/-
  LawS4435ACommuteOne, walked.
-/
import Derived.Test.YbulkcmvcCommB
import Derived.WalkKit
import Derived.WalkSpells
import Derived.Deep.RegionHeld3
import Derived.Deep.CutRange
import Derived.BigQuiet
import Derived.Deep.QuietTactic
namespace Go.Proofs.Ybulkcmvc
open Go.RowKit
def One : Nat → Int := fun k => if k = 0 then 1 else 0
theorem one_dig : Mul.Dig 18446744073709551616 One 3 := by
  intro k hk; unfold One; split <;> decide
theorem one_val : Mul.val 18446744073709551616 One 3 = 1 := rfl
def low (S : Nat → Int) : Nat → Int := fun k => if k < 3 then S k else 0
theorem low_dig (S : Nat → Int) (hS : Mul.Dig 18446744073709551616 S 3) : Mul.Dig 18446744073709551616 (low S) 6 := by
  intro k hk; unfold low; split
  · exact hS k (by omega)
  · decide
theorem low_val (S : Nat → Int) : Mul.val 18446744073709551616 (low S) 6 = Mul.val 18446744073709551616 S 3 := by
  simp [Mul.val, low]
theorem times_one (W X : World) (S : Nat → Int) (hS : Mul.Dig 18446744073709551616 S 3) (hX : Below W.heap.size W X) :
    Calls Yba.prog 7 #[.agg #[.int .u64 (S 2), .int .u64 (S 1), .int .u64 (S 0)], .agg #[.int .u64 0, .int .u64 0, .int .u64 1]] X fun e w' =>
      e = .returned (.agg #[.int .u64 0, .int .u64 0, .int .u64 0, .int .u64 (S 2), .int .u64 (S 1), .int .u64 (S 0)]) ∧ Below W.heap.size W w' ∧ W.heap.size ≤ w'.heap.size ∧
      (∀ b o, b < X.heap.size → w'.cell? ⟨b, o, none⟩ = X.cell? ⟨b, o, none⟩) ∧ (∀ b o, b < X.heap.size → w'.frozen? ⟨b, o, none⟩ = X.frozen? ⟨b, o, none⟩) ∧ (∀ n, n < X.heap.size + 4 → n < w'.heap.size) ∧
      W.heap.size < w'.heap.size ∧ W.heap.size + 1 < w'.heap.size :=
  times_w W X S One (low S) hS one_dig (low_dig S hS) (by rw [low_val, one_val, Int.mul_one]) hX
theorem one_times (W X : World) (S : Nat → Int) (hS : Mul.Dig 18446744073709551616 S 3) (hX : Below W.heap.size W X) :
    Calls Yba.prog 7 #[.agg #[.int .u64 0, .int .u64 0, .int .u64 1], .agg #[.int .u64 (S 2), .int .u64 (S 1), .int .u64 (S 0)]] X fun e w' =>
      e = .returned (.agg #[.int .u64 0, .int .u64 0, .int .u64 0, .int .u64 (S 2), .int .u64 (S 1), .int .u64 (S 0)]) ∧ Below W.heap.size W w' ∧ W.heap.size ≤ w'.heap.size ∧
      (∀ b o, b < X.heap.size → w'.cell? ⟨b, o, none⟩ = X.cell? ⟨b, o, none⟩) ∧ (∀ b o, b < X.heap.size → w'.frozen? ⟨b, o, none⟩ = X.frozen? ⟨b, o, none⟩) ∧ (∀ n, n < X.heap.size + 4 → n < w'.heap.size) ∧
      W.heap.size < w'.heap.size ∧ W.heap.size + 1 < w'.heap.size :=
  times_w W X One S (low S) one_dig hS (low_dig S hS) (by rw [low_val, one_val, Int.one_mul]) hX
theorem build25 (a b c : Int) (w : World) : (Instr.build 25 #[(0, .int .u64 a), (1, .int .u64 b), (2, .int .u64 c)]).run Yba.prog w = .ok (.agg #[.int .u64 a, .int .u64 b, .int .u64 c]) w := run_build w 25 _ _ (by kernel_rfl)
theorem build24 (a b c d e f : Int) (w : World) : (Instr.build 24 #[(0, .int .u64 a), (1, .int .u64 b), (2, .int .u64 c), (3, .int .u64 d), (4, .int .u64 e), (5, .int .u64 f)]).run Yba.prog w = .ok (.agg #[.int .u64 a, .int .u64 b, .int .u64 c, .int .u64 d, .int .u64 e, .int .u64 f]) w := run_build w 24 _ _ (by kernel_rfl)

set_option maxRecDepth 100000 in
set_option maxHeartbeats 1000000 in
theorem comm_walk (S T : Nat → Int) (hS : Mul.Dig 18446744073709551616 S 3) (hT : Mul.Dig 18446744073709551616 T 3) (w : World) :
    Calls Yba.prog 4 #[.agg #[.int .u64 (S 2), .int .u64 (S 1), .int .u64 (S 0)], .agg #[.int .u64 (T 2), .int .u64 (T 1), .int .u64 (T 0)]] w fun e w' => e = .returned (.bool true) ∧ Below w.heap.size w w' := by
  obtain ⟨f, hd, hv⟩ := prod_ex S T hS hT
  have hv' : Mul.val 18446744073709551616 f 6 = Mul.val 18446744073709551616 T 3 * Mul.val 18446744073709551616 S 3 := by rw [Int.mul_comm]; exact hv
  have HV := And.intro (a := Hid _) (b := Hid _) hv hv'
  clear hv hv'
  go_enter Yba.func4, Yba.ntmps4
  go_wp2
  go_cut [5, 6] from 9 to 10 (fun p q wz => ∃ b1 b2, p = .pointer (some ⟨b1, 0, none⟩) ∧ q = .pointer (some ⟨b2, 0, none⟩) ∧ b1 < wz.heap.size ∧ b2 < wz.heap.size ∧ w.heap.size < wz.heap.size ∧
     wz.cell? ⟨b1, 0, none⟩ = some (.int .u64 (S 2)) ∧ wz.cell? ⟨b1, 1, none⟩ = some (.int .u64 (S 1)) ∧ wz.cell? ⟨b1, 2, none⟩ = some (.int .u64 (S 0)) ∧
     wz.cell? ⟨b2, 0, none⟩ = some (.int .u64 (T 2)) ∧ wz.cell? ⟨b2, 1, none⟩ = some (.int .u64 (T 1)) ∧ wz.cell? ⟨b2, 2, none⟩ = some (.int .u64 (T 0)) ∧
     wz.cell? ⟨w.heap.size, 0, none⟩ = some (.int .u64 (S 2)) ∧ wz.cell? ⟨w.heap.size, 1, none⟩ = some (.int .u64 (S 1)) ∧ wz.cell? ⟨w.heap.size, 2, none⟩ = some (.int .u64 (S 0)) ∧ Below w.heap.size w wz)
  case first =>
    go_region
    all_goals go_wp2
    all_goals go_meet
    all_goals refine ⟨_, _, rfl, rfl, ?_⟩
    all_goals go_simp
    all_goals repeat' (first | with_reducible exact Below.refl _ _ | with_reducible assumption | with_reducible apply Below.drew | with_reducible apply below_dn | with_reducible apply Below.setCell | with_reducible apply Below.alloc | (first | omega | (simp; done) | (simp; omega)))
  case rest =>
    obtain ⟨b1, b2, rfl, rfl, z1, z2, z3, a0, a1, a2, c0, c1, c2, s0, s1, s2, hbz⟩ := hcut
    have MK : Hid (∀ X, Below wc.heap.size wc X → X.cell? ⟨b1, 0, none⟩ = some (.int .u64 (S 2)) ∧ X.cell? ⟨b1, 1, none⟩ = some (.int .u64 (S 1)) ∧ X.cell? ⟨b1, 2, none⟩ = some (.int .u64 (S 0)) ∧ X.cell? ⟨b2, 0, none⟩ = some (.int .u64 (T 2)) ∧ X.cell? ⟨b2, 1, none⟩ = some (.int .u64 (T 1)) ∧ X.cell? ⟨b2, 2, none⟩ = some (.int .u64 (T 0)) ∧ X.cell? ⟨w.heap.size, 0, none⟩ = some (.int .u64 (S 2)) ∧ X.cell? ⟨w.heap.size, 1, none⟩ = some (.int .u64 (S 1)) ∧ X.cell? ⟨w.heap.size, 2, none⟩ = some (.int .u64 (S 0))) := fun X hX => ⟨(hX.cell (p := ⟨b1, 0, none⟩) z1).trans a0, (hX.cell (p := ⟨b1, 1, none⟩) z1).trans a1, (hX.cell (p := ⟨b1, 2, none⟩) z1).trans a2, (hX.cell (p := ⟨b2, 0, none⟩) z2).trans c0, (hX.cell (p := ⟨b2, 1, none⟩) z2).trans c1, (hX.cell (p := ⟨b2, 2, none⟩) z2).trans c2, (hX.cell (p := ⟨w.heap.size, 0, none⟩) z3).trans s0, (hX.cell (p := ⟨w.heap.size, 1, none⟩) z3).trans s1, (hX.cell (p := ⟨w.heap.size, 2, none⟩) z3).trans s2⟩
    have heq := eq24_same (f 5) (f 4) (f 3) (f 2) (f 1) (f 0)
    have HBZ : Hid (Below w.heap.size w wc) := hbz
    clear hbz
    go_wp2
    go_region_held3 (fun X => X.cell? ⟨b1, 0, none⟩ = some (.int .u64 (S 2)) ∧ X.cell? ⟨b1, 1, none⟩ = some (.int .u64 (S 1)) ∧ X.cell? ⟨b1, 2, none⟩ = some (.int .u64 (S 0)) ∧ X.cell? ⟨b2, 0, none⟩ = some (.int .u64 (T 2)) ∧ X.cell? ⟨b2, 1, none⟩ = some (.int .u64 (T 1)) ∧ X.cell? ⟨b2, 2, none⟩ = some (.int .u64 (T 0)) ∧ X.cell? ⟨w.heap.size, 0, none⟩ = some (.int .u64 (S 2)) ∧ X.cell? ⟨w.heap.size, 1, none⟩ = some (.int .u64 (S 1)) ∧ X.cell? ⟨w.heap.size, 2, none⟩ = some (.int .u64 (S 0)))
      (exact MK.out _ (by repeat' (first | with_reducible exact Below.refl _ _ | with_reducible assumption | with_reducible apply Below.drew | with_reducible apply below_dn | with_reducible apply Below.setCell | with_reducible apply Below.alloc | (first | omega | (simp; done) | (simp; omega)))))
      (first
        | (go_at_call 7; with_reducible refine (times_w wc _ S T f hS hT hd HV.1.out ?_).mono ?_; (repeat' (first | with_reducible exact Below.refl _ _ | with_reducible assumption | with_reducible apply Below.drew | with_reducible apply below_dn | with_reducible apply Below.setCell | with_reducible apply Below.alloc | (first | omega | (simp; done) | (simp; omega)))); rintro e w1 ⟨rfl, k1, y1, -, -, -, -, -⟩)
        | (go_at_call 7; with_reducible refine (times_w wc _ T S f hT hS hd HV.2.out ?_).mono ?_; (repeat' (first | with_reducible exact Below.refl _ _ | with_reducible assumption | with_reducible apply Below.drew | with_reducible apply below_dn | with_reducible apply Below.setCell | with_reducible apply Below.alloc | (first | omega | (simp; done) | (simp; omega)))); rintro e w2 ⟨rfl, k2, y2, -, -, -, -, -⟩))
    have m2 := MK.out w2 k2
    go_wp2_with fail
    refine (cp_same S T T S f hS hT hT hS hd HV.1.out HV.2.out _).mono ?_
    rintro e w3 ⟨rfl, hb3⟩
    have k3 : Below wc.heap.size wc w3 := k2.trans (hb3.mono k2.size)
    have m3 := MK.out w3 k3
    have q1 : b1 < w3.heap.size := Nat.lt_of_lt_of_le z1 k3.size
    have q3 : w.heap.size < w3.heap.size := Nat.lt_of_lt_of_le z3 k3.size
    have K3 : Hid (Below w.heap.size w w3) := HBZ.out.trans (k3.mono (Nat.le_of_lt z3))
    clear hb3 k3 k2 k1 m2 MK heq
    have g25 := build25
    have g24 := build24
    go_wp2
    generalize hW : (w3.alloc (.cells #[.int .u64 0, .int .u64 0, .int .u64 1] 25)).alloc (.cells #[.int .u64 0, .int .u64 0, .int .u64 0, .int .u64 (S 2), .int .u64 (S 1), .int .u64 (S 0)] 24) = W
    have d0 : W.cell? ⟨b1, 0, none⟩ = some (.int .u64 (S 2)) := by rw [← hW]; simp [go_sem, q1, m3]
    have d1 : W.cell? ⟨b1, 1, none⟩ = some (.int .u64 (S 1)) := by rw [← hW]; simp [go_sem, q1, m3]
    have d2 : W.cell? ⟨b1, 2, none⟩ = some (.int .u64 (S 0)) := by rw [← hW]; simp [go_sem, q1, m3]
    have e0 : W.cell? ⟨w3.heap.size, 0, none⟩ = some (.int .u64 0) := by rw [← hW]; simp [go_sem]
    have e1 : W.cell? ⟨w3.heap.size, 1, none⟩ = some (.int .u64 0) := by rw [← hW]; simp [go_sem]
    have e2 : W.cell? ⟨w3.heap.size, 2, none⟩ = some (.int .u64 1) := by rw [← hW]; simp [go_sem]
    have g0 : W.cell? ⟨w3.heap.size + 1, 0, none⟩ = some (.int .u64 0) := by rw [← hW]; simp [go_sem]
    have g1 : W.cell? ⟨w3.heap.size + 1, 1, none⟩ = some (.int .u64 0) := by rw [← hW]; simp [go_sem]
    have g2 : W.cell? ⟨w3.heap.size + 1, 2, none⟩ = some (.int .u64 0) := by rw [← hW]; simp [go_sem]
    have g3 : W.cell? ⟨w3.heap.size + 1, 3, none⟩ = some (.int .u64 (S 2)) := by rw [← hW]; simp [go_sem]
    have g4 : W.cell? ⟨w3.heap.size + 1, 4, none⟩ = some (.int .u64 (S 1)) := by rw [← hW]; simp [go_sem]
    have g5 : W.cell? ⟨w3.heap.size + 1, 5, none⟩ = some (.int .u64 (S 0)) := by rw [← hW]; simp [go_sem]
    have r1 : b1 < W.heap.size := by rw [← hW]; simp; omega
    have r2 : w3.heap.size < W.heap.size := by rw [← hW]; simp; omega
    have r3 : w3.heap.size + 1 < W.heap.size := by rw [← hW]; simp
    have HBW : Hid (Below w.heap.size w W) := by
      rw [← hW]
      exact (K3.out.alloc (Nat.le_of_lt q3) _).alloc (by simp; omega) _
    have r4 : w.heap.size < W.heap.size := by omega
    clear hW m3 g24 g25
    have heq := eq24_same 0 0 0 (S 2) (S 1) (S 0)
    have MK : Hid (∀ X, Below W.heap.size W X → X.cell? ⟨b1, 0, none⟩ = some (.int .u64 (S 2)) ∧ X.cell? ⟨b1, 1, none⟩ = some (.int .u64 (S 1)) ∧ X.cell? ⟨b1, 2, none⟩ = some (.int .u64 (S 0)) ∧ X.cell? ⟨w3.heap.size, 0, none⟩ = some (.int .u64 0) ∧ X.cell? ⟨w3.heap.size, 1, none⟩ = some (.int .u64 0) ∧ X.cell? ⟨w3.heap.size, 2, none⟩ = some (.int .u64 1) ∧ X.cell? ⟨w3.heap.size + 1, 0, none⟩ = some (.int .u64 0) ∧ X.cell? ⟨w3.heap.size + 1, 1, none⟩ = some (.int .u64 0) ∧ X.cell? ⟨w3.heap.size + 1, 2, none⟩ = some (.int .u64 0) ∧ X.cell? ⟨w3.heap.size + 1, 3, none⟩ = some (.int .u64 (S 2)) ∧ X.cell? ⟨w3.heap.size + 1, 4, none⟩ = some (.int .u64 (S 1)) ∧ X.cell? ⟨w3.heap.size + 1, 5, none⟩ = some (.int .u64 (S 0))) := fun X hX => ⟨(hX.cell (p := ⟨b1, 0, none⟩) r1).trans d0, (hX.cell (p := ⟨b1, 1, none⟩) r1).trans d1, (hX.cell (p := ⟨b1, 2, none⟩) r1).trans d2, (hX.cell (p := ⟨w3.heap.size, 0, none⟩) r2).trans e0, (hX.cell (p := ⟨w3.heap.size, 1, none⟩) r2).trans e1, (hX.cell (p := ⟨w3.heap.size, 2, none⟩) r2).trans e2, (hX.cell (p := ⟨w3.heap.size + 1, 0, none⟩) r3).trans g0, (hX.cell (p := ⟨w3.heap.size + 1, 1, none⟩) r3).trans g1, (hX.cell (p := ⟨w3.heap.size + 1, 2, none⟩) r3).trans g2, (hX.cell (p := ⟨w3.heap.size + 1, 3, none⟩) r3).trans g3, (hX.cell (p := ⟨w3.heap.size + 1, 4, none⟩) r3).trans g4, (hX.cell (p := ⟨w3.heap.size + 1, 5, none⟩) r3).trans g5⟩
    go_region_held3 (fun X => X.cell? ⟨b1, 0, none⟩ = some (.int .u64 (S 2)) ∧ X.cell? ⟨b1, 1, none⟩ = some (.int .u64 (S 1)) ∧ X.cell? ⟨b1, 2, none⟩ = some (.int .u64 (S 0)) ∧ X.cell? ⟨w3.heap.size, 0, none⟩ = some (.int .u64 0) ∧ X.cell? ⟨w3.heap.size, 1, none⟩ = some (.int .u64 0) ∧ X.cell? ⟨w3.heap.size, 2, none⟩ = some (.int .u64 1) ∧ X.cell? ⟨w3.heap.size + 1, 0, none⟩ = some (.int .u64 0) ∧ X.cell? ⟨w3.heap.size + 1, 1, none⟩ = some (.int .u64 0) ∧ X.cell? ⟨w3.heap.size + 1, 2, none⟩ = some (.int .u64 0) ∧ X.cell? ⟨w3.heap.size + 1, 3, none⟩ = some (.int .u64 (S 2)) ∧ X.cell? ⟨w3.heap.size + 1, 4, none⟩ = some (.int .u64 (S 1)) ∧ X.cell? ⟨w3.heap.size + 1, 5, none⟩ = some (.int .u64 (S 0)))
      (exact MK.out _ (by repeat' (first | with_reducible exact Below.refl _ _ | with_reducible assumption | with_reducible apply Below.drew | with_reducible apply below_dn | with_reducible apply Below.setCell | with_reducible apply Below.alloc | (first | omega | (simp; done) | (simp; omega)))))
      (first
        | (go_at_call 7; with_reducible refine (times_one W _ S hS ?_).mono ?_; (repeat' (first | with_reducible exact Below.refl _ _ | with_reducible assumption | with_reducible apply Below.drew | with_reducible apply below_dn | with_reducible apply Below.setCell | with_reducible apply Below.alloc | (first | omega | (simp; done) | (simp; omega)))); rintro e w4 ⟨rfl, k4, y4, -, -, -, -, -⟩)
        | (go_at_call 7; with_reducible refine (one_times W _ S hS ?_).mono ?_; (repeat' (first | with_reducible exact Below.refl _ _ | with_reducible assumption | with_reducible apply Below.drew | with_reducible apply below_dn | with_reducible apply Below.setCell | with_reducible apply Below.alloc | (first | omega | (simp; done) | (simp; omega)))); rintro e w5 ⟨rfl, k5, y5, -, -, -, -, -⟩))
    go_wp2
    go_ret
    exact ⟨rfl, HBW.out.trans (k5.mono (Nat.le_of_lt r4))⟩
end Go.Proofs.Ybulkcmvc
