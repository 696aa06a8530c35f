import Derived.Test.YbulkcmvcIdA
import Derived.Shelf.Spec.BitsCarry
import Derived.WalkKit
import Derived.WalkSpells
import Derived.BigRegion
import Derived.BigQuiet
import Derived.Deep.QuietTactic
import Derived.Handy
namespace Go.Proofs.Ybulkcmvc
open Go.RowKit

theorem sub64N (x y b : Nat) (hb : b ≤ 1) (w : World) : (callFunc 81 #[.int .u64 x, .int .u64 y, .int .u64 b]).run Yba.prog w =
      .ok (.value (.tuple #[.int .u64 (((x + 18446744073709551616 - y - b) % 18446744073709551616 : Nat) : Int), .int .u64 ((if x < y + b then 1 else 0 : Nat) : Int)])) w := by
  rw [run_callFunc_extern Yba.func81 (by kernel_rfl) (by kernel_rfl) (by kernel_rfl) (e := sub64Entry) (by kernel_rfl), run_sub64 x y b hb]
  rfl
theorem sub_ge (y x : Int) (hx : 0 ≤ x) (hy : y < 256) (h : x ≤ y) (w : World) : (callFunc 81 #[.int .u64 y, .int .u64 x, .int .u64 0]).run Yba.prog w =
      .ok (.value (.tuple #[.int .u64 (y - x), .int .u64 0])) w := by
  obtain ⟨x, rfl⟩ := Int.eq_ofNat_of_zero_le hx
  obtain ⟨y, rfl⟩ := Int.eq_ofNat_of_zero_le (show 0 ≤ y by omega)
  refine (sub64N y x 0 (by omega) w).trans ?_
  rw [if_neg (by omega), show (((y + 18446744073709551616 - x - 0) % 18446744073709551616 : Nat) : Int) = (y : Int) - (x : Int) from by omega]
  rfl
theorem sub_lt (y x : Int) (hy : 0 ≤ y) (hx : x < 256) (h : y < x) (w : World) : (callFunc 81 #[.int .u64 y, .int .u64 x, .int .u64 0]).run Yba.prog w =
      .ok (.value (.tuple #[.int .u64 (y - x + 18446744073709551616), .int .u64 1])) w := by
  obtain ⟨y, rfl⟩ := Int.eq_ofNat_of_zero_le hy
  obtain ⟨x, rfl⟩ := Int.eq_ofNat_of_zero_le (show 0 ≤ x by omega)
  refine (sub64N y x 0 (by omega) w).trans ?_
  rw [if_pos (by omega), show (((y + 18446744073709551616 - x - 0) % 18446744073709551616 : Nat) : Int) = (y : Int) - (x : Int) + 18446744073709551616 from by omega]
  rfl
theorem sub_z1 (w : World) : (callFunc 81 #[.int .u64 0, .int .u64 0, .int .u64 1]).run Yba.prog w =
      .ok (.value (.tuple #[.int .u64 18446744073709551615, .int .u64 1])) w := sub64N 0 0 1 (by omega) w
theorem sub_z0 (w : World) : (callFunc 81 #[.int .u64 0, .int .u64 0, .int .u64 0]).run Yba.prog w =
      .ok (.value (.tuple #[.int .u64 0, .int .u64 0])) w := sub64N 0 0 0 (by omega) w


set_option maxHeartbeats 1000000 in
theorem distance_ge (x y : Int) (hx : 0 ≤ x) (hy : y < 256) (h : x ≤ y) (w : World) : Calls Yba.prog 58 #[idV x, idV y] w fun e w' => e = .returned (idV ((y - x) % 256)) ∧ Below w.heap.size w w' := by
  have s1 := sub_ge y x hx hy h
  have s2 := sub_z0
  go_enter Yba.func58, Yba.ntmps58
  go_wp2
  refine wp_loop_rounds 4 ?_
  rw [rounds_succ]
  go_wp2
  go_region
  go_wp2
  rw [rounds_succ]
  go_wp2
  go_region
  go_wp2
  rw [rounds_succ]
  go_wp2
  go_region
  go_wp2
  rw [rounds_succ]
  go_wp2_with fail
  refine (masked_walk _ _ _ _ ?_ ?_).mono ?_
  · omega
  · omega
  rintro e w' ⟨rfl, hb⟩
  have c0 : w'.cell? ⟨w.heap.size + 1 + 1, 0, none⟩ = some (.int .u64 0) := (hb.cell (by simp)).trans (by simp [go_sem])
  have c1 : w'.cell? ⟨w.heap.size + 1 + 1, 1, none⟩ = some (.int .u64 0) := (hb.cell (by simp)).trans (by simp [go_sem])
  have c2 : w'.cell? ⟨w.heap.size + 1 + 1, 2, none⟩ = some (.int .u64 0) := (hb.cell (by simp)).trans (by simp [go_sem])
  have c3 : w'.cell? ⟨w.heap.size + 1 + 1, 3, none⟩ = some (.int .u8 0) := (hb.cell (by simp)).trans (by simp [go_sem])
  have f0 : ∀ o, w'.frozen? ⟨w.heap.size + 1 + 1, o, none⟩ = false := fun o => (hb.frozen (by simp)).trans (by simp [go_sem])
  have HB : Hid (Below w.heap.size w w') := by
    refine Below.trans ?_ (hb.mono ?_)
    · go_grown
    · simp; omega
  clear hb
  go_wp2
  refine bodyPost_ret (v := idV ((y - x) % 256)) (by simp [results, Yba.results58, go_sem, c0, c1, c2, c3]) rfl ?_
  refine ⟨rfl, ?_⟩
  have := HB.out
  go_grown

set_option maxHeartbeats 1000000 in
theorem distance_lt (x y : Int) (hy : 0 ≤ y) (hx : x < 256) (h : y < x) (w : World) : Calls Yba.prog 58 #[idV x, idV y] w fun e w' => e = .returned (idV ((y - x + 18446744073709551616) % 256)) ∧ Below w.heap.size w w' := by
  have s1 := sub_lt y x hy hx h
  have s2 := sub_z1
  go_enter Yba.func58, Yba.ntmps58
  go_wp2
  refine wp_loop_rounds 4 ?_
  rw [rounds_succ]
  go_wp2
  go_region
  go_wp2
  rw [rounds_succ]
  go_wp2
  go_region
  go_wp2
  rw [rounds_succ]
  go_wp2
  go_region
  go_wp2
  rw [rounds_succ]
  go_wp2_with fail
  refine (masked_walk _ _ _ _ ?_ ?_).mono ?_
  · omega
  · omega
  rintro e w' ⟨rfl, hb⟩
  have c0 : w'.cell? ⟨w.heap.size + 1 + 1, 0, none⟩ = some (.int .u64 0) := (hb.cell (by simp)).trans (by simp [go_sem])
  have c1 : w'.cell? ⟨w.heap.size + 1 + 1, 1, none⟩ = some (.int .u64 0) := (hb.cell (by simp)).trans (by simp [go_sem])
  have c2 : w'.cell? ⟨w.heap.size + 1 + 1, 2, none⟩ = some (.int .u64 0) := (hb.cell (by simp)).trans (by simp [go_sem])
  have c3 : w'.cell? ⟨w.heap.size + 1 + 1, 3, none⟩ = some (.int .u8 0) := (hb.cell (by simp)).trans (by simp [go_sem])
  have f0 : ∀ o, w'.frozen? ⟨w.heap.size + 1 + 1, o, none⟩ = false := fun o => (hb.frozen (by simp)).trans (by simp [go_sem])
  have HB : Hid (Below w.heap.size w w') := by
    refine Below.trans ?_ (hb.mono ?_)
    · go_grown
    · simp; omega
  clear hb
  go_wp2
  refine bodyPost_ret (v := idV ((y - x + 18446744073709551616) % 256)) (by simp [results, Yba.results58, go_sem, c0, c1, c2, c3]) rfl ?_
  refine ⟨rfl, ?_⟩
  have := HB.out
  go_grown

/-- (ID).Distance on ids of 8 bits. -/
theorem distance_walk (x y : Int) (hx : 0 ≤ x ∧ x < 256) (hy : 0 ≤ y ∧ y < 256) (w : World) : Calls Yba.prog 58 #[idV x, idV y] w fun e w' => e = .returned (idV ((y - x) % 256)) ∧ Below w.heap.size w w' := by
  by_cases h : x ≤ y
  · exact distance_ge x y hx.1 hy.2 h w
  · refine (distance_lt x y hy.1 hx.2 (by omega) w).mono ?_
    rintro e w' ⟨rfl, hb⟩
    exact ⟨by rw [show (y - x + 18446744073709551616) % 256 = (y - x) % 256 by omega], hb⟩
theorem add_small (x y : Int) (hx : 0 ≤ x) (hy : 0 ≤ y) (hx' : x < 256) (hy' : y < 256) (w : World) : (callFunc 19 #[.int .u64 x, .int .u64 y, .int .u64 0]).run Yba.prog w = .ok (.value (.tuple #[.int .u64 (x + y), .int .u64 0])) w := by
  rw [add64_0 x y hx hy, show (x + y) % 18446744073709551616 = x + y by omega, show (x + y) / 18446744073709551616 = 0 by omega]
theorem add_z (w : World) : (callFunc 19 #[.int .u64 0, .int .u64 0, .int .u64 0]).run Yba.prog w = .ok (.value (.tuple #[.int .u64 0, .int .u64 0])) w :=
  add_small 0 0 (by decide) (by decide) (by decide) (by decide) w

set_option maxHeartbeats 1000000 in
theorem addpow0 (v : Int) (h0 : 0 ≤ v) (h1 : v < 256) (w : World) : Calls Yba.prog 51 #[idV v, .int .i64 0] w fun e w' => e = .returned (idV ((v + 1) % 256)) ∧ Below w.heap.size w w' := by
  have s1 := add_small v 1 h0 (by decide) h1 (by decide)
  have s2 := add_z
  go_enter Yba.func51, Yba.ntmps51
  go_wp2
  refine wp_loop_rounds 4 ?_
  rw [rounds_succ]
  go_wp2
  go_region
  go_wp2
  rw [rounds_succ]
  go_wp2
  go_region
  go_wp2
  rw [rounds_succ]
  go_wp2
  go_region
  go_wp2
  rw [rounds_succ]
  go_wp2_with fail
  refine (masked_walk _ _ _ _ ?_ ?_).mono ?_
  · omega
  · omega
  rintro e w' ⟨rfl, hb⟩
  have c0 : w'.cell? ⟨w.heap.size + 1, 0, none⟩ = some (.int .u64 0) := (hb.cell (by simp)).trans (by simp [go_sem])
  have c1 : w'.cell? ⟨w.heap.size + 1, 1, none⟩ = some (.int .u64 0) := (hb.cell (by simp)).trans (by simp [go_sem])
  have c2 : w'.cell? ⟨w.heap.size + 1, 2, none⟩ = some (.int .u64 0) := (hb.cell (by simp)).trans (by simp [go_sem])
  have c3 : w'.cell? ⟨w.heap.size + 1, 3, none⟩ = some (.int .u8 0) := (hb.cell (by simp)).trans (by simp [go_sem])
  have f0 : ∀ o, w'.frozen? ⟨w.heap.size + 1, o, none⟩ = false := fun o => (hb.frozen (by simp)).trans (by simp [go_sem])
  have HB : Hid (Below w.heap.size w w') := by
    refine Below.trans ?_ (hb.mono ?_)
    · go_grown
    · simp; omega
  clear hb
  go_wp2
  refine bodyPost_ret (v := idV ((v + 1) % 256)) (by simp [results, Yba.results51, go_sem, c0, c1, c2, c3]) rfl ?_
  refine ⟨rfl, ?_⟩
  have := HB.out
  go_grown

set_option maxHeartbeats 1000000 in
theorem addpow1 (v : Int) (h0 : 0 ≤ v) (h1 : v < 256) (w : World) : Calls Yba.prog 51 #[idV v, .int .i64 1] w fun e w' => e = .returned (idV ((v + 2) % 256)) ∧ Below w.heap.size w w' := by
  have s1 := add_small v 2 h0 (by decide) h1 (by decide)
  have s2 := add_z
  go_enter Yba.func51, Yba.ntmps51
  go_wp2
  refine wp_loop_rounds 4 ?_
  rw [rounds_succ]
  go_wp2
  go_region
  go_wp2
  rw [rounds_succ]
  go_wp2
  go_region
  go_wp2
  rw [rounds_succ]
  go_wp2
  go_region
  go_wp2
  rw [rounds_succ]
  go_wp2_with fail
  refine (masked_walk _ _ _ _ ?_ ?_).mono ?_
  · omega
  · omega
  rintro e w' ⟨rfl, hb⟩
  have c0 : w'.cell? ⟨w.heap.size + 1, 0, none⟩ = some (.int .u64 0) := (hb.cell (by simp)).trans (by simp [go_sem])
  have c1 : w'.cell? ⟨w.heap.size + 1, 1, none⟩ = some (.int .u64 0) := (hb.cell (by simp)).trans (by simp [go_sem])
  have c2 : w'.cell? ⟨w.heap.size + 1, 2, none⟩ = some (.int .u64 0) := (hb.cell (by simp)).trans (by simp [go_sem])
  have c3 : w'.cell? ⟨w.heap.size + 1, 3, none⟩ = some (.int .u8 0) := (hb.cell (by simp)).trans (by simp [go_sem])
  have f0 : ∀ o, w'.frozen? ⟨w.heap.size + 1, o, none⟩ = false := fun o => (hb.frozen (by simp)).trans (by simp [go_sem])
  have HB : Hid (Below w.heap.size w w') := by
    refine Below.trans ?_ (hb.mono ?_)
    · go_grown
    · simp; omega
  clear hb
  go_wp2
  refine bodyPost_ret (v := idV ((v + 2) % 256)) (by simp [results, Yba.results51, go_sem, c0, c1, c2, c3]) rfl ?_
  refine ⟨rfl, ?_⟩
  have := HB.out
  go_grown

set_option maxHeartbeats 1000000 in
theorem addpow2 (v : Int) (h0 : 0 ≤ v) (h1 : v < 256) (w : World) : Calls Yba.prog 51 #[idV v, .int .i64 2] w fun e w' => e = .returned (idV ((v + 4) % 256)) ∧ Below w.heap.size w w' := by
  have s1 := add_small v 4 h0 (by decide) h1 (by decide)
  have s2 := add_z
  go_enter Yba.func51, Yba.ntmps51
  go_wp2
  refine wp_loop_rounds 4 ?_
  rw [rounds_succ]
  go_wp2
  go_region
  go_wp2
  rw [rounds_succ]
  go_wp2
  go_region
  go_wp2
  rw [rounds_succ]
  go_wp2
  go_region
  go_wp2
  rw [rounds_succ]
  go_wp2_with fail
  refine (masked_walk _ _ _ _ ?_ ?_).mono ?_
  · omega
  · omega
  rintro e w' ⟨rfl, hb⟩
  have c0 : w'.cell? ⟨w.heap.size + 1, 0, none⟩ = some (.int .u64 0) := (hb.cell (by simp)).trans (by simp [go_sem])
  have c1 : w'.cell? ⟨w.heap.size + 1, 1, none⟩ = some (.int .u64 0) := (hb.cell (by simp)).trans (by simp [go_sem])
  have c2 : w'.cell? ⟨w.heap.size + 1, 2, none⟩ = some (.int .u64 0) := (hb.cell (by simp)).trans (by simp [go_sem])
  have c3 : w'.cell? ⟨w.heap.size + 1, 3, none⟩ = some (.int .u8 0) := (hb.cell (by simp)).trans (by simp [go_sem])
  have f0 : ∀ o, w'.frozen? ⟨w.heap.size + 1, o, none⟩ = false := fun o => (hb.frozen (by simp)).trans (by simp [go_sem])
  have HB : Hid (Below w.heap.size w w') := by
    refine Below.trans ?_ (hb.mono ?_)
    · go_grown
    · simp; omega
  clear hb
  go_wp2
  refine bodyPost_ret (v := idV ((v + 4) % 256)) (by simp [results, Yba.results51, go_sem, c0, c1, c2, c3]) rfl ?_
  refine ⟨rfl, ?_⟩
  have := HB.out
  go_grown

set_option maxHeartbeats 1000000 in
theorem addpow3 (v : Int) (h0 : 0 ≤ v) (h1 : v < 256) (w : World) : Calls Yba.prog 51 #[idV v, .int .i64 3] w fun e w' => e = .returned (idV ((v + 8) % 256)) ∧ Below w.heap.size w w' := by
  have s1 := add_small v 8 h0 (by decide) h1 (by decide)
  have s2 := add_z
  go_enter Yba.func51, Yba.ntmps51
  go_wp2
  refine wp_loop_rounds 4 ?_
  rw [rounds_succ]
  go_wp2
  go_region
  go_wp2
  rw [rounds_succ]
  go_wp2
  go_region
  go_wp2
  rw [rounds_succ]
  go_wp2
  go_region
  go_wp2
  rw [rounds_succ]
  go_wp2_with fail
  refine (masked_walk _ _ _ _ ?_ ?_).mono ?_
  · omega
  · omega
  rintro e w' ⟨rfl, hb⟩
  have c0 : w'.cell? ⟨w.heap.size + 1, 0, none⟩ = some (.int .u64 0) := (hb.cell (by simp)).trans (by simp [go_sem])
  have c1 : w'.cell? ⟨w.heap.size + 1, 1, none⟩ = some (.int .u64 0) := (hb.cell (by simp)).trans (by simp [go_sem])
  have c2 : w'.cell? ⟨w.heap.size + 1, 2, none⟩ = some (.int .u64 0) := (hb.cell (by simp)).trans (by simp [go_sem])
  have c3 : w'.cell? ⟨w.heap.size + 1, 3, none⟩ = some (.int .u8 0) := (hb.cell (by simp)).trans (by simp [go_sem])
  have f0 : ∀ o, w'.frozen? ⟨w.heap.size + 1, o, none⟩ = false := fun o => (hb.frozen (by simp)).trans (by simp [go_sem])
  have HB : Hid (Below w.heap.size w w') := by
    refine Below.trans ?_ (hb.mono ?_)
    · go_grown
    · simp; omega
  clear hb
  go_wp2
  refine bodyPost_ret (v := idV ((v + 8) % 256)) (by simp [results, Yba.results51, go_sem, c0, c1, c2, c3]) rfl ?_
  refine ⟨rfl, ?_⟩
  have := HB.out
  go_grown

set_option maxHeartbeats 1000000 in
theorem addpow4 (v : Int) (h0 : 0 ≤ v) (h1 : v < 256) (w : World) : Calls Yba.prog 51 #[idV v, .int .i64 4] w fun e w' => e = .returned (idV ((v + 16) % 256)) ∧ Below w.heap.size w w' := by
  have s1 := add_small v 16 h0 (by decide) h1 (by decide)
  have s2 := add_z
  go_enter Yba.func51, Yba.ntmps51
  go_wp2
  refine wp_loop_rounds 4 ?_
  rw [rounds_succ]
  go_wp2
  go_region
  go_wp2
  rw [rounds_succ]
  go_wp2
  go_region
  go_wp2
  rw [rounds_succ]
  go_wp2
  go_region
  go_wp2
  rw [rounds_succ]
  go_wp2_with fail
  refine (masked_walk _ _ _ _ ?_ ?_).mono ?_
  · omega
  · omega
  rintro e w' ⟨rfl, hb⟩
  have c0 : w'.cell? ⟨w.heap.size + 1, 0, none⟩ = some (.int .u64 0) := (hb.cell (by simp)).trans (by simp [go_sem])
  have c1 : w'.cell? ⟨w.heap.size + 1, 1, none⟩ = some (.int .u64 0) := (hb.cell (by simp)).trans (by simp [go_sem])
  have c2 : w'.cell? ⟨w.heap.size + 1, 2, none⟩ = some (.int .u64 0) := (hb.cell (by simp)).trans (by simp [go_sem])
  have c3 : w'.cell? ⟨w.heap.size + 1, 3, none⟩ = some (.int .u8 0) := (hb.cell (by simp)).trans (by simp [go_sem])
  have f0 : ∀ o, w'.frozen? ⟨w.heap.size + 1, o, none⟩ = false := fun o => (hb.frozen (by simp)).trans (by simp [go_sem])
  have HB : Hid (Below w.heap.size w w') := by
    refine Below.trans ?_ (hb.mono ?_)
    · go_grown
    · simp; omega
  clear hb
  go_wp2
  refine bodyPost_ret (v := idV ((v + 16) % 256)) (by simp [results, Yba.results51, go_sem, c0, c1, c2, c3]) rfl ?_
  refine ⟨rfl, ?_⟩
  have := HB.out
  go_grown

set_option maxHeartbeats 1000000 in
theorem addpow5 (v : Int) (h0 : 0 ≤ v) (h1 : v < 256) (w : World) : Calls Yba.prog 51 #[idV v, .int .i64 5] w fun e w' => e = .returned (idV ((v + 32) % 256)) ∧ Below w.heap.size w w' := by
  have s1 := add_small v 32 h0 (by decide) h1 (by decide)
  have s2 := add_z
  go_enter Yba.func51, Yba.ntmps51
  go_wp2
  refine wp_loop_rounds 4 ?_
  rw [rounds_succ]
  go_wp2
  go_region
  go_wp2
  rw [rounds_succ]
  go_wp2
  go_region
  go_wp2
  rw [rounds_succ]
  go_wp2
  go_region
  go_wp2
  rw [rounds_succ]
  go_wp2_with fail
  refine (masked_walk _ _ _ _ ?_ ?_).mono ?_
  · omega
  · omega
  rintro e w' ⟨rfl, hb⟩
  have c0 : w'.cell? ⟨w.heap.size + 1, 0, none⟩ = some (.int .u64 0) := (hb.cell (by simp)).trans (by simp [go_sem])
  have c1 : w'.cell? ⟨w.heap.size + 1, 1, none⟩ = some (.int .u64 0) := (hb.cell (by simp)).trans (by simp [go_sem])
  have c2 : w'.cell? ⟨w.heap.size + 1, 2, none⟩ = some (.int .u64 0) := (hb.cell (by simp)).trans (by simp [go_sem])
  have c3 : w'.cell? ⟨w.heap.size + 1, 3, none⟩ = some (.int .u8 0) := (hb.cell (by simp)).trans (by simp [go_sem])
  have f0 : ∀ o, w'.frozen? ⟨w.heap.size + 1, o, none⟩ = false := fun o => (hb.frozen (by simp)).trans (by simp [go_sem])
  have HB : Hid (Below w.heap.size w w') := by
    refine Below.trans ?_ (hb.mono ?_)
    · go_grown
    · simp; omega
  clear hb
  go_wp2
  refine bodyPost_ret (v := idV ((v + 32) % 256)) (by simp [results, Yba.results51, go_sem, c0, c1, c2, c3]) rfl ?_
  refine ⟨rfl, ?_⟩
  have := HB.out
  go_grown

set_option maxHeartbeats 1000000 in
theorem addpow6 (v : Int) (h0 : 0 ≤ v) (h1 : v < 256) (w : World) : Calls Yba.prog 51 #[idV v, .int .i64 6] w fun e w' => e = .returned (idV ((v + 64) % 256)) ∧ Below w.heap.size w w' := by
  have s1 := add_small v 64 h0 (by decide) h1 (by decide)
  have s2 := add_z
  go_enter Yba.func51, Yba.ntmps51
  go_wp2
  refine wp_loop_rounds 4 ?_
  rw [rounds_succ]
  go_wp2
  go_region
  go_wp2
  rw [rounds_succ]
  go_wp2
  go_region
  go_wp2
  rw [rounds_succ]
  go_wp2
  go_region
  go_wp2
  rw [rounds_succ]
  go_wp2_with fail
  refine (masked_walk _ _ _ _ ?_ ?_).mono ?_
  · omega
  · omega
  rintro e w' ⟨rfl, hb⟩
  have c0 : w'.cell? ⟨w.heap.size + 1, 0, none⟩ = some (.int .u64 0) := (hb.cell (by simp)).trans (by simp [go_sem])
  have c1 : w'.cell? ⟨w.heap.size + 1, 1, none⟩ = some (.int .u64 0) := (hb.cell (by simp)).trans (by simp [go_sem])
  have c2 : w'.cell? ⟨w.heap.size + 1, 2, none⟩ = some (.int .u64 0) := (hb.cell (by simp)).trans (by simp [go_sem])
  have c3 : w'.cell? ⟨w.heap.size + 1, 3, none⟩ = some (.int .u8 0) := (hb.cell (by simp)).trans (by simp [go_sem])
  have f0 : ∀ o, w'.frozen? ⟨w.heap.size + 1, o, none⟩ = false := fun o => (hb.frozen (by simp)).trans (by simp [go_sem])
  have HB : Hid (Below w.heap.size w w') := by
    refine Below.trans ?_ (hb.mono ?_)
    · go_grown
    · simp; omega
  clear hb
  go_wp2
  refine bodyPost_ret (v := idV ((v + 64) % 256)) (by simp [results, Yba.results51, go_sem, c0, c1, c2, c3]) rfl ?_
  refine ⟨rfl, ?_⟩
  have := HB.out
  go_grown

set_option maxHeartbeats 1000000 in
theorem addpow7 (v : Int) (h0 : 0 ≤ v) (h1 : v < 256) (w : World) : Calls Yba.prog 51 #[idV v, .int .i64 7] w fun e w' => e = .returned (idV ((v + 128) % 256)) ∧ Below w.heap.size w w' := by
  have s1 := add_small v 128 h0 (by decide) h1 (by decide)
  have s2 := add_z
  go_enter Yba.func51, Yba.ntmps51
  go_wp2
  refine wp_loop_rounds 4 ?_
  rw [rounds_succ]
  go_wp2
  go_region
  go_wp2
  rw [rounds_succ]
  go_wp2
  go_region
  go_wp2
  rw [rounds_succ]
  go_wp2
  go_region
  go_wp2
  rw [rounds_succ]
  go_wp2_with fail
  refine (masked_walk _ _ _ _ ?_ ?_).mono ?_
  · omega
  · omega
  rintro e w' ⟨rfl, hb⟩
  have c0 : w'.cell? ⟨w.heap.size + 1, 0, none⟩ = some (.int .u64 0) := (hb.cell (by simp)).trans (by simp [go_sem])
  have c1 : w'.cell? ⟨w.heap.size + 1, 1, none⟩ = some (.int .u64 0) := (hb.cell (by simp)).trans (by simp [go_sem])
  have c2 : w'.cell? ⟨w.heap.size + 1, 2, none⟩ = some (.int .u64 0) := (hb.cell (by simp)).trans (by simp [go_sem])
  have c3 : w'.cell? ⟨w.heap.size + 1, 3, none⟩ = some (.int .u8 0) := (hb.cell (by simp)).trans (by simp [go_sem])
  have f0 : ∀ o, w'.frozen? ⟨w.heap.size + 1, o, none⟩ = false := fun o => (hb.frozen (by simp)).trans (by simp [go_sem])
  have HB : Hid (Below w.heap.size w w') := by
    refine Below.trans ?_ (hb.mono ?_)
    · go_grown
    · simp; omega
  clear hb
  go_wp2
  refine bodyPost_ret (v := idV ((v + 128) % 256)) (by simp [results, Yba.results51, go_sem, c0, c1, c2, c3]) rfl ?_
  refine ⟨rfl, ?_⟩
  have := HB.out
  go_grown

/-- (ID).AddPow2 on an id of 8 bits. -/
theorem addpow_walk (v : Int) (i : Nat) (hi : i < 8) (h0 : 0 ≤ v) (h1 : v < 256) (w : World) : Calls Yba.prog 51 #[idV v, .int .i64 i] w fun e w' => e = .returned (idV ((v + 2 ^ i) % 256)) ∧ Below w.heap.size w w' := by
  rcases (show i = 0 ∨ i = 1 ∨ i = 2 ∨ i = 3 ∨ i = 4 ∨ i = 5 ∨ i = 6 ∨ i = 7 by omega) with rfl | rfl | rfl | rfl | rfl | rfl | rfl | rfl
  · exact addpow0 v h0 h1 w
  · exact addpow1 v h0 h1 w
  · exact addpow2 v h0 h1 w
  · exact addpow3 v h0 h1 w
  · exact addpow4 v h0 h1 w
  · exact addpow5 v h0 h1 w
  · exact addpow6 v h0 h1 w
  · exact addpow7 v h0 h1 w
end Go.Proofs.Ybulkcmvc
