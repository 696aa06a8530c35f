import Derived.Test.YbulkcmvcIdB
import Derived.Test.YbulkcmvcLen
import Derived.WalkKit
import Derived.WalkSpells
import Derived.BigRegion
import Derived.BigQuiet
import Derived.Deep.QuietTactic
import Derived.Deep.RegionHeld3
import Derived.Handy
namespace Go.Proofs.Ybulkcmvc
open Go.RowKit
theorem below_dn2 {B n : Nat} {a w : World} (h : Below B a w) : Below B a (w.drewN n) := ⟨h.os, h.tape, h.output, h.size, h.block⟩

set_option maxHeartbeats 1000000 in
theorem cmp_lt (x y : Int) (h : x < y) (w : World) : Calls Yba.prog 75 #[idV x, idV y] w fun e w' => e = .returned (.int .i64 (-1)) ∧ Below w.heap.size w w' := by
  go_enter Yba.func75, Yba.ntmps75
  go_wp2
  refine wp_loop_rounds 4 ?_
  rw [rounds_succ]
  go_wp2
  go_quiet (fail)
  go_wp2
  go_quiet (fail)
  go_wp2
  rw [rounds_succ]
  go_wp2
  go_quiet (fail)
  go_wp2
  go_quiet (fail)
  go_wp2
  rw [rounds_succ]
  go_wp2
  go_quiet (fail)
  go_wp2
  go_ret
  refine ⟨rfl, ?_⟩
  repeat' (first | with_reducible exact Below.refl _ _ | with_reducible apply below_dn2 | with_reducible apply Below.alloc)
  all_goals (simp <;> omega)

set_option maxHeartbeats 1000000 in
theorem cmp_gt (x y : Int) (h : y < x) (w : World) : Calls Yba.prog 75 #[idV x, idV y] w fun e w' => e = .returned (.int .i64 (1)) ∧ Below w.heap.size w w' := by
  have h' : ¬ x < y := by omega
  go_enter Yba.func75, Yba.ntmps75
  go_wp2
  refine wp_loop_rounds 4 ?_
  rw [rounds_succ]
  go_wp2
  go_quiet (fail)
  go_wp2
  go_quiet (fail)
  go_wp2
  rw [rounds_succ]
  go_wp2
  go_quiet (fail)
  go_wp2
  go_quiet (fail)
  go_wp2
  rw [rounds_succ]
  go_wp2
  go_quiet (fail)
  go_wp2
  go_quiet (fail)
  go_wp2
  go_ret
  refine ⟨rfl, ?_⟩
  repeat' (first | with_reducible exact Below.refl _ _ | with_reducible apply below_dn2 | with_reducible apply Below.alloc)
  all_goals (simp <;> omega)

set_option maxHeartbeats 1000000 in
theorem cmp_eq (x y : Int) (h : y = x) (w : World) : Calls Yba.prog 75 #[idV x, idV y] w fun e w' => e = .returned (.int .i64 (0)) ∧ Below w.heap.size w w' := by
  subst h
  go_enter Yba.func75, Yba.ntmps75
  go_wp2
  refine wp_loop_rounds 4 ?_
  rw [rounds_succ]
  go_wp2
  go_quiet (fail)
  go_wp2
  go_quiet (fail)
  go_wp2
  rw [rounds_succ]
  go_wp2
  go_quiet (fail)
  go_wp2
  go_quiet (fail)
  go_wp2
  rw [rounds_succ]
  go_wp2
  go_quiet (fail)
  go_wp2
  go_quiet (fail)
  go_wp2
  rw [rounds_succ]
  go_wp2
  go_ret
  refine ⟨rfl, ?_⟩
  repeat' (first | with_reducible exact Below.refl _ _ | with_reducible apply below_dn2 | with_reducible apply Below.alloc)
  all_goals (simp <;> omega)

/-- (ID).Cmp on ids of 8 bits: at most 0. -/
theorem cmp_walk (x y : Int) (w : World) : Calls Yba.prog 75 #[idV x, idV y] w fun e w' => ∃ c : Int, (c ≤ 0 ↔ x ≤ y) ∧ e = .returned (.int .i64 c) ∧ Below w.heap.size w w' := by
  rcases Int.lt_trichotomy x y with h | h | h
  · exact (cmp_lt x y h w).mono fun e w' hh => ⟨-1, by omega, hh.1, hh.2⟩
  · exact (cmp_eq x y h.symm w).mono fun e w' hh => ⟨0, by omega, hh.1, hh.2⟩
  · exact (cmp_gt x y h w).mono fun e w' hh => ⟨1, by omega, hh.1, hh.2⟩

set_option maxRecDepth 100000 in
set_option maxHeartbeats 1000000 in
/-- (ID).bitLen on an id of 8 bits, not 0. -/
theorem bitlen_walk (d : Int) (h0 : 0 < d) (h1 : d < 256) (w : World) : Calls Yba.prog 59 #[idV d] w fun e w' => e = .returned (.int .i64 (Lib.bitLen d.toNat)) ∧ Below w.heap.size w w' := by
  have hd : (d == 0) = false := by simp; omega
  have hl := Lib.bitLen_le8 ⟨d.toNat, by omega⟩
  simp only at hl
  obtain ⟨n, hn⟩ : ∃ n : Nat, Lib.bitLen d.toNat = n := ⟨_, rfl⟩
  rw [hn] at hl ⊢
  have HN : Hid (Lib.bitLen d.toNat = n) := hn
  clear hn
  have i0 : ∀ w, (Instr.index 23 (.agg #[.int .u64 0, .int .u64 0, .int .u64 d]) (.int .i64 0)).run Yba.prog w = .ok (.int .u64 0) w := fun _ => by kernel_rfl
  have i1 : ∀ w, (Instr.index 23 (.agg #[.int .u64 0, .int .u64 0, .int .u64 d]) (.int .i64 1)).run Yba.prog w = .ok (.int .u64 0) w := fun _ => by kernel_rfl
  have i2 : ∀ w, (Instr.index 23 (.agg #[.int .u64 0, .int .u64 0, .int .u64 d]) (.int .i64 2)).run Yba.prog w = .ok (.int .u64 d) w := fun _ => by kernel_rfl
  go_enter Yba.func59, Yba.ntmps59
  go_wp2
  refine wp_loop_rounds 4 ?_
  rw [rounds_succ]
  go_wp2
  rw [rounds_succ]
  go_wp2
  rw [rounds_succ]
  go_wp2_with (go_at_call 82; refine (Yba.bits_Len64 d _ (by omega) (by omega)).mono ?_; rintro e w' ⟨rfl, rfl⟩; rw [HN.out])
  go_ret
  refine ⟨?_, by go_grown⟩
  simp
end Go.Proofs.Ybulkcmvc
