/-
  compareProducts where the two products are one.
-/
import Derived.Test.YbulkcmvcCommA
import Derived.WalkKit
import Derived.WalkSpells
import Derived.Outline
import Derived.Deep.RegionHeld3
import Derived.Deep.CutRange
import Derived.BigQuiet
import Derived.Deep.QuietTactic
namespace Go.Proofs.Ybulkcmvc
open Go.RowKit

theorem six_all {P : Nat → Prop} (h : P 0 ∧ P 1 ∧ P 2 ∧ P 3 ∧ P 4 ∧ P 5) : ∀ k, k < 6 → P k := by
  intro k hk
  obtain ⟨h0, h1, h2, h3, h4, h5⟩ := h
  rcases (show k = 0 ∨ k = 1 ∨ k = 2 ∨ k = 3 ∨ k = 4 ∨ k = 5 by omega) with rfl | rfl | rfl | rfl | rfl | rfl <;> assumption
set_option maxHeartbeats 4000000 in
/-- compareProducts where the two products are one. -/
theorem cp_same (A B C D f : Nat → Int) (hA : Mul.Dig 18446744073709551616 A 3) (hB : Mul.Dig 18446744073709551616 B 3) (hC : Mul.Dig 18446744073709551616 C 3) (hD : Mul.Dig 18446744073709551616 D 3) (hd : Mul.Dig 18446744073709551616 f 6)
    (hv : Mul.val 18446744073709551616 f 6 = Mul.val 18446744073709551616 A 3 * Mul.val 18446744073709551616 B 3) (hv' : Mul.val 18446744073709551616 f 6 = Mul.val 18446744073709551616 C 3 * Mul.val 18446744073709551616 D 3) (w : World) :
    Calls Yba.prog 9 #[.agg #[.int .u64 (A 2), .int .u64 (A 1), .int .u64 (A 0)], .agg #[.int .u64 (B 2), .int .u64 (B 1), .int .u64 (B 0)], .agg #[.int .u64 (C 2), .int .u64 (C 1), .int .u64 (C 0)], .agg #[.int .u64 (D 2), .int .u64 (D 1), .int .u64 (D 0)]] w fun e w' =>
      e = .returned (.int .i64 0) ∧ Below w.heap.size w w' := by
  go_enter Yba.func9, Yba.ntmps9
  go_wp2
  generalize hW : (((w.alloc (.cells #[.int .u64 (A 2), .int .u64 (A 1), .int .u64 (A 0)] 25)).alloc (.cells #[.int .u64 (B 2), .int .u64 (B 1), .int .u64 (B 0)] 25)).alloc (.cells #[.int .u64 (C 2), .int .u64 (C 1), .int .u64 (C 0)] 25)).alloc (.cells #[.int .u64 (D 2), .int .u64 (D 1), .int .u64 (D 0)] 25) = W
  have a0 : W.cell? ⟨w.heap.size, 0, none⟩ = some (.int .u64 (A 2)) := by rw [← hW]; simp [go_sem]
  have a1 : W.cell? ⟨w.heap.size, 1, none⟩ = some (.int .u64 (A 1)) := by rw [← hW]; simp [go_sem]
  have a2 : W.cell? ⟨w.heap.size, 2, none⟩ = some (.int .u64 (A 0)) := by rw [← hW]; simp [go_sem]
  have b0 : W.cell? ⟨w.heap.size + 1, 0, none⟩ = some (.int .u64 (B 2)) := by rw [← hW]; simp [go_sem]
  have b1 : W.cell? ⟨w.heap.size + 1, 1, none⟩ = some (.int .u64 (B 1)) := by rw [← hW]; simp [go_sem]
  have b2 : W.cell? ⟨w.heap.size + 1, 2, none⟩ = some (.int .u64 (B 0)) := by rw [← hW]; simp [go_sem]
  have c0 : W.cell? ⟨w.heap.size + 1 + 1, 0, none⟩ = some (.int .u64 (C 2)) := by rw [← hW]; simp [go_sem]
  have c1 : W.cell? ⟨w.heap.size + 1 + 1, 1, none⟩ = some (.int .u64 (C 1)) := by rw [← hW]; simp [go_sem]
  have c2 : W.cell? ⟨w.heap.size + 1 + 1, 2, none⟩ = some (.int .u64 (C 0)) := by rw [← hW]; simp [go_sem]
  have d0 : W.cell? ⟨w.heap.size + 1 + 1 + 1, 0, none⟩ = some (.int .u64 (D 2)) := by rw [← hW]; simp [go_sem]
  have d1 : W.cell? ⟨w.heap.size + 1 + 1 + 1, 1, none⟩ = some (.int .u64 (D 1)) := by rw [← hW]; simp [go_sem]
  have d2 : W.cell? ⟨w.heap.size + 1 + 1 + 1, 2, none⟩ = some (.int .u64 (D 0)) := by rw [← hW]; simp [go_sem]
  have HB : Hid (Below w.heap.size w W) := by
    rw [← hW]
    show Below w.heap.size w _
    repeat' (first | with_reducible exact Below.refl _ _ | with_reducible assumption | with_reducible apply Below.drew | with_reducible apply below_dn | with_reducible apply Below.setCell | with_reducible apply Below.alloc | (first | omega | (simp; done) | (simp; omega)))
  have hz : W.heap.size = w.heap.size + 1 + 1 + 1 + 1 := by rw [← hW]; simp
  have MK : Hid (∀ X, Below W.heap.size W X → X.cell? ⟨w.heap.size, 0, none⟩ = some (.int .u64 (A 2)) ∧ X.cell? ⟨w.heap.size, 1, none⟩ = some (.int .u64 (A 1)) ∧ X.cell? ⟨w.heap.size, 2, none⟩ = some (.int .u64 (A 0)) ∧ X.cell? ⟨w.heap.size + 1, 0, none⟩ = some (.int .u64 (B 2)) ∧ X.cell? ⟨w.heap.size + 1, 1, none⟩ = some (.int .u64 (B 1)) ∧ X.cell? ⟨w.heap.size + 1, 2, none⟩ = some (.int .u64 (B 0)) ∧ X.cell? ⟨w.heap.size + 1 + 1, 0, none⟩ = some (.int .u64 (C 2)) ∧ X.cell? ⟨w.heap.size + 1 + 1, 1, none⟩ = some (.int .u64 (C 1)) ∧ X.cell? ⟨w.heap.size + 1 + 1, 2, none⟩ = some (.int .u64 (C 0)) ∧ X.cell? ⟨w.heap.size + 1 + 1 + 1, 0, none⟩ = some (.int .u64 (D 2)) ∧ X.cell? ⟨w.heap.size + 1 + 1 + 1, 1, none⟩ = some (.int .u64 (D 1)) ∧ X.cell? ⟨w.heap.size + 1 + 1 + 1, 2, none⟩ = some (.int .u64 (D 0))) := fun X hX =>
    ⟨(hX.cell (p := ⟨w.heap.size, 0, none⟩) (by simp; omega)).trans a0, (hX.cell (p := ⟨w.heap.size, 1, none⟩) (by simp; omega)).trans a1, (hX.cell (p := ⟨w.heap.size, 2, none⟩) (by simp; omega)).trans a2, (hX.cell (p := ⟨w.heap.size + 1, 0, none⟩) (by simp; omega)).trans b0, (hX.cell (p := ⟨w.heap.size + 1, 1, none⟩) (by simp; omega)).trans b1, (hX.cell (p := ⟨w.heap.size + 1, 2, none⟩) (by simp; omega)).trans b2, (hX.cell (p := ⟨w.heap.size + 1 + 1, 0, none⟩) (by simp; omega)).trans c0, (hX.cell (p := ⟨w.heap.size + 1 + 1, 1, none⟩) (by simp; omega)).trans c1, (hX.cell (p := ⟨w.heap.size + 1 + 1, 2, none⟩) (by simp; omega)).trans c2, (hX.cell (p := ⟨w.heap.size + 1 + 1 + 1, 0, none⟩) (by simp; omega)).trans d0, (hX.cell (p := ⟨w.heap.size + 1 + 1 + 1, 1, none⟩) (by simp; omega)).trans d1, (hX.cell (p := ⟨w.heap.size + 1 + 1 + 1, 2, none⟩) (by simp; omega)).trans d2⟩
  have HZ : Hid (W.heap.size = w.heap.size + 1 + 1 + 1 + 1) := hz
  clear hW hz
  go_cut [9, 10] from 11 to 16 (fun p q wz => ∃ b1 b2, p = .pointer (some ⟨b1, 0, none⟩) ∧ q = .pointer (some ⟨b2, 0, none⟩) ∧ (∀ k, k < 6 → wz.cell? ⟨b1, k, none⟩ = some (.int .u64 (f (5 - k)))) ∧ (∀ k, k < 6 → wz.cell? ⟨b2, k, none⟩ = some (.int .u64 (f (5 - k)))) ∧ Below w.heap.size w wz)
  case rest =>
    obtain ⟨b1, b2, rfl, rfl, h1, h2, hbz⟩ := hcut
    have H1 : Hid (∀ k, k < 6 → wc.cell? ⟨b1, k, none⟩ = some (.int .u64 (f (5 - k)))) := h1
    have H2 : Hid (∀ k, k < 6 → wc.cell? ⟨b2, k, none⟩ = some (.int .u64 (f (5 - k)))) := h2
    clear h1 h2
    go_wp2
    go_quiet ((go_at_call 21; exact Calls.quiet_of_same (compare6 b1 b2 (fun k => f (5 - k)) _ H1.out H2.out)))
    go_wp2
    go_ret
    exact ⟨rfl, below_dn hbz⟩
  case first =>
   go_region_held3 (fun X => X.cell? ⟨w.heap.size, 0, none⟩ = some (.int .u64 (A 2)) ∧ X.cell? ⟨w.heap.size, 1, none⟩ = some (.int .u64 (A 1)) ∧ X.cell? ⟨w.heap.size, 2, none⟩ = some (.int .u64 (A 0)) ∧ X.cell? ⟨w.heap.size + 1, 0, none⟩ = some (.int .u64 (B 2)) ∧ X.cell? ⟨w.heap.size + 1, 1, none⟩ = some (.int .u64 (B 1)) ∧ X.cell? ⟨w.heap.size + 1, 2, none⟩ = some (.int .u64 (B 0)) ∧ X.cell? ⟨w.heap.size + 1 + 1, 0, none⟩ = some (.int .u64 (C 2)) ∧ X.cell? ⟨w.heap.size + 1 + 1, 1, none⟩ = some (.int .u64 (C 1)) ∧ X.cell? ⟨w.heap.size + 1 + 1, 2, none⟩ = some (.int .u64 (C 0)) ∧ X.cell? ⟨w.heap.size + 1 + 1 + 1, 0, none⟩ = some (.int .u64 (D 2)) ∧ X.cell? ⟨w.heap.size + 1 + 1 + 1, 1, none⟩ = some (.int .u64 (D 1)) ∧ X.cell? ⟨w.heap.size + 1 + 1 + 1, 2, none⟩ = some (.int .u64 (D 0)))
    (exact MK.out _ (by repeat' (first | with_reducible exact Below.refl _ _ | with_reducible assumption | with_reducible apply Below.drew | with_reducible apply below_dn | with_reducible apply Below.setCell | with_reducible apply Below.alloc | (first | omega | (simp; done) | (simp; omega)))))
    (first
      | (go_at_call_of 7 (Value.agg #[.int .u64 (A 2), .int .u64 (A 1), .int .u64 (A 0)]); refine (times_w W _ A B f hA hB hd hv ?_).mono ?_; (repeat' (first | with_reducible exact Below.refl _ _ | with_reducible assumption | with_reducible apply Below.drew | with_reducible apply below_dn | with_reducible apply Below.setCell | with_reducible apply Below.alloc | (first | omega | (simp; done) | (simp; omega)))); rintro e w1 ⟨rfl, k1, z1, hc1, hf1, hn1, y1, y1'⟩)
      | (go_at_call_of 7 (Value.agg #[.int .u64 (C 2), .int .u64 (C 1), .int .u64 (C 0)]); refine (times_w W _ C D f hC hD hd hv' ?_).mono ?_; (repeat' (first | with_reducible exact Below.refl _ _ | with_reducible assumption | with_reducible apply Below.drew | with_reducible apply below_dn | with_reducible apply Below.setCell | with_reducible apply Below.alloc | (first | omega | (simp; done) | (simp; omega)))); rintro e w2 ⟨rfl, k2, z2, hc2, hf2, hn2, y2, y2'⟩; have q1 : w1.heap.size < w2.heap.size := hn2 _ (by first | (simp; done) | (simp; omega) | omega); have q2 : w1.heap.size + 1 < w2.heap.size := hn2 _ (by first | (simp; done) | (simp; omega) | omega)))
   all_goals go_wp2
   all_goals go_meet
   all_goals refine ⟨_, _, rfl, rfl, six_all ?_, six_all ?_, HB.out.trans (Below.mono (B := W.heap.size) (by repeat' (first | with_reducible exact Below.refl _ _ | with_reducible assumption | with_reducible apply Below.drew | with_reducible apply below_dn | with_reducible apply Below.setCell | with_reducible apply Below.alloc | (first | omega | (simp; done) | (simp; omega)))) HB.out.size)⟩
   all_goals (refine ⟨?_, ?_, ?_, ?_, ?_, ?_⟩ <;> go_simp)
   all_goals (refine World.cell?_setCell_same (u := .int .u64 0) _ _ _ ?_; go_simp)
end Go.Proofs.Ybulkcmvc
