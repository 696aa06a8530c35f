import Derived.Test.YbulkcmvcModel
import Derived.WalkKit
import Derived.Laws.Tables
import Derived.KernelRfl
import Derived.WalkSpells
import Derived.Outline
import Derived.Deep.RegionHeld3
namespace Go.Proofs.Ybulkcmvc
open Go.RowKit

/-- '==' of two [6]uint64 with the same words. -/
theorem eq24_same (a b c d e f : Int) (w : World) : (Op.equalIn 10000 24 (.agg #[.int .u64 a, .int .u64 b, .int .u64 c, .int .u64 d, .int .u64 e, .int .u64 f]) (.agg #[.int .u64 a, .int .u64 b, .int .u64 c, .int .u64 d, .int .u64 e, .int .u64 f])).run Yba.prog w = .ok true w := by
  have u3 := Yba.underlying22
  have a3 := Yba.isAgg22
  have z3 := Yba.sizeOf22
  rw [show (10000 : Nat) = 9999 + 1 from rfl, Op.equalIn]
  simp only [Sem.run_bind, run_underlying Yba.underlying24, Result.andThen_ok]
  simp only [Std.Legacy.Range.forIn_eq_forIn_range', Std.Legacy.Range.size, Nat.sub_zero, Nat.add_sub_cancel, Nat.div_one, List.range'_succ, List.range'_zero, List.forIn_cons, List.forIn_nil]
  go_simp
theorem bcell {W w1 : World} (hb : Below W.heap.size W w1) : (∀ b o, b < W.heap.size → w1.cell? ⟨b, o, none⟩ = W.cell? ⟨b, o, none⟩) :=
  fun b o h => hb.cell (p := ⟨b, o, none⟩) h
theorem model_is (S T f : Nat → Int) (hS : Mul.Dig 18446744073709551616 S 3) (hT : Mul.Dig 18446744073709551616 T 3) (hd : Mul.Dig 18446744073709551616 f 6)
    (hv : Mul.val 18446744073709551616 f 6 = Mul.val 18446744073709551616 S 3 * Mul.val 18446744073709551616 T 3) (w : World) :
    Calls Yba.prog 8 #[.agg #[.int .u64 (S 2), .int .u64 (S 1), .int .u64 (S 0)], .agg #[.int .u64 (T 2), .int .u64 (T 1), .int .u64 (T 0)]] w fun e w' =>
      e = .returned (.agg #[.int .u64 (f 5), .int .u64 (f 4), .int .u64 (f 3), .int .u64 (f 2), .int .u64 (f 1), .int .u64 (f 0)]) ∧ Below w.heap.size w w' := by
  refine (model_any S T hS hT w).mono ?_
  rintro e w' ⟨g, rfl, hg, hgv, hb⟩
  have h := Mul.digits (by decide) 6 hg hd (hgv.trans hv.symm)
  rw [h 0 (by omega), h 1 (by omega), h 2 (by omega), h 3 (by omega), h 4 (by omega), h 5 (by omega)]
  exact ⟨rfl, hb⟩

set_option maxHeartbeats 1000000 in
theorem product_walk (S T : Nat → Int) (hS : Mul.Dig 18446744073709551616 S 3) (hT : Mul.Dig 18446744073709551616 T 3) (w : World) :
    Calls Yba.prog 3 #[.agg #[.int .u64 (S 2), .int .u64 (S 1), .int .u64 (S 0)], .agg #[.int .u64 (T 2), .int .u64 (T 1), .int .u64 (T 0)]] w fun e w' => e = .returned (.bool true) ∧ Below w.heap.size w w' := by
  go_enter Yba.func3, Yba.ntmps3
  go_wp2_with fail
  refine (times_any S T hS hT _).mono ?_
  rintro e w1 ⟨f, rfl, hd, hv, hb⟩
  have hsz := hb.size
  have hc : ∀ b o, b < w.heap.size + 1 + 1 → w1.cell? ⟨b, o, none⟩ = ((w.alloc (.cells #[.int .u64 (S 2), .int .u64 (S 1), .int .u64 (S 0)] 23)).alloc (.cells #[.int .u64 (T 2), .int .u64 (T 1), .int .u64 (T 0)] 23)).cell? ⟨b, o, none⟩ := fun b o h => hb.cell (p := ⟨b, o, none⟩) (by simpa using h)
  have a0 : w1.cell? ⟨w.heap.size, 0, none⟩ = some (.int .u64 (S 2)) := by rw [hc _ _ (by omega)]; simp [go_sem]
  have a1 : w1.cell? ⟨w.heap.size, 1, none⟩ = some (.int .u64 (S 1)) := by rw [hc _ _ (by omega)]; simp [go_sem]
  have a2 : w1.cell? ⟨w.heap.size, 2, none⟩ = some (.int .u64 (S 0)) := by rw [hc _ _ (by omega)]; simp [go_sem]
  have b0 : w1.cell? ⟨w.heap.size + 1, 0, none⟩ = some (.int .u64 (T 2)) := by rw [hc _ _ (by omega)]; simp [go_sem]
  have b1 : w1.cell? ⟨w.heap.size + 1, 1, none⟩ = some (.int .u64 (T 1)) := by rw [hc _ _ (by omega)]; simp [go_sem]
  have b2 : w1.cell? ⟨w.heap.size + 1, 2, none⟩ = some (.int .u64 (T 0)) := by rw [hc _ _ (by omega)]; simp [go_sem]
  have z1 : w.heap.size < w1.heap.size := by simp at hsz; omega
  have z2 : w.heap.size + 1 < w1.heap.size := by simp at hsz; omega
  have HB : Hid (Below w.heap.size w w1) := ((((Below.refl _ w).alloc (Nat.le_refl _) _).alloc (by simp) _).trans (hb.mono (by simp; omega)))
  clear hb hc hsz
  go_wp2
  generalize hW : w1.alloc (.cells #[.int .u64 (f 5), .int .u64 (f 4), .int .u64 (f 3), .int .u64 (f 2), .int .u64 (f 1), .int .u64 (f 0)] 24) = W
  have a0 : W.cell? ⟨w.heap.size, 0, none⟩ = some (.int .u64 (S 2)) := by rw [← hW, World.cell?_alloc_past]; exact a0; exact z1
  have a1 : W.cell? ⟨w.heap.size, 1, none⟩ = some (.int .u64 (S 1)) := by rw [← hW, World.cell?_alloc_past]; exact a1; exact z1
  have a2 : W.cell? ⟨w.heap.size, 2, none⟩ = some (.int .u64 (S 0)) := by rw [← hW, World.cell?_alloc_past]; exact a2; exact z1
  have b0 : W.cell? ⟨w.heap.size + 1, 0, none⟩ = some (.int .u64 (T 2)) := by rw [← hW, World.cell?_alloc_past]; exact b0; exact z2
  have b1 : W.cell? ⟨w.heap.size + 1, 1, none⟩ = some (.int .u64 (T 1)) := by rw [← hW, World.cell?_alloc_past]; exact b1; exact z2
  have b2 : W.cell? ⟨w.heap.size + 1, 2, none⟩ = some (.int .u64 (T 0)) := by rw [← hW, World.cell?_alloc_past]; exact b2; exact z2
  have c0 : W.cell? ⟨w1.heap.size, 0, none⟩ = some (.int .u64 (f 5)) := by rw [← hW]; simp [go_sem]
  have c1 : W.cell? ⟨w1.heap.size, 1, none⟩ = some (.int .u64 (f 4)) := by rw [← hW]; simp [go_sem]
  have c2 : W.cell? ⟨w1.heap.size, 2, none⟩ = some (.int .u64 (f 3)) := by rw [← hW]; simp [go_sem]
  have c3 : W.cell? ⟨w1.heap.size, 3, none⟩ = some (.int .u64 (f 2)) := by rw [← hW]; simp [go_sem]
  have c4 : W.cell? ⟨w1.heap.size, 4, none⟩ = some (.int .u64 (f 1)) := by rw [← hW]; simp [go_sem]
  have c5 : W.cell? ⟨w1.heap.size, 5, none⟩ = some (.int .u64 (f 0)) := by rw [← hW]; simp [go_sem]
  have z0 : w1.heap.size < W.heap.size := by rw [← hW]; simp
  have heq := eq24_same (f 5) (f 4) (f 3) (f 2) (f 1) (f 0)
  have HB2 : Hid (Below w.heap.size w W) := by rw [← hW]; exact HB.out.alloc (by omega) _
  clear hW
  have z3 : w.heap.size < W.heap.size := by omega
  have z4 : w.heap.size + 1 < W.heap.size := by omega
  go_region_held3 (fun w' => w'.cell? ⟨w.heap.size, 0, none⟩ = some (.int .u64 (S 2)) ∧ w'.cell? ⟨w.heap.size, 1, none⟩ = some (.int .u64 (S 1)) ∧ w'.cell? ⟨w.heap.size, 2, none⟩ = some (.int .u64 (S 0)) ∧ w'.cell? ⟨w.heap.size + 1, 0, none⟩ = some (.int .u64 (T 2)) ∧ w'.cell? ⟨w.heap.size + 1, 1, none⟩ = some (.int .u64 (T 1)) ∧ w'.cell? ⟨w.heap.size + 1, 2, none⟩ = some (.int .u64 (T 0)) ∧ w'.cell? ⟨w1.heap.size, 0, none⟩ = some (.int .u64 (f 5)) ∧ w'.cell? ⟨w1.heap.size, 1, none⟩ = some (.int .u64 (f 4)) ∧ w'.cell? ⟨w1.heap.size, 2, none⟩ = some (.int .u64 (f 3)) ∧ w'.cell? ⟨w1.heap.size, 3, none⟩ = some (.int .u64 (f 2)) ∧ w'.cell? ⟨w1.heap.size, 4, none⟩ = some (.int .u64 (f 1)) ∧ w'.cell? ⟨w1.heap.size, 5, none⟩ = some (.int .u64 (f 0))) (first | (simp [*, go_sem]; done) | exact ⟨(hc2 _ _ z3).trans a0, (hc2 _ _ z3).trans a1, (hc2 _ _ z3).trans a2, (hc2 _ _ z4).trans b0, (hc2 _ _ z4).trans b1, (hc2 _ _ z4).trans b2, (hc2 _ _ z0).trans c0, (hc2 _ _ z0).trans c1, (hc2 _ _ z0).trans c2, (hc2 _ _ z0).trans c3, (hc2 _ _ z0).trans c4, (hc2 _ _ z0).trans c5⟩)
    (first
      | (go_at_call 8; refine (model_is S T f hS hT hd hv _).mono ?_; rintro e w' ⟨rfl, hb2⟩; have hc2 := bcell hb2))
  go_wp2
  go_ret
  exact ⟨rfl, (HB2.out.trans ((below_dn (n := 1) (Below.refl _ W)).mono (Nat.le_of_lt z3))).trans (hb2.mono (Nat.le_of_lt z3))⟩
end Go.Proofs.Ybulkcmvc
