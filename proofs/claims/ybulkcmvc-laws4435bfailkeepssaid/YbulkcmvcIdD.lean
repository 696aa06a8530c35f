import Derived.Test.YbulkcmvcIdC
import Derived.WalkKit
import Derived.WalkSpells
import Derived.BigRegion
import Derived.BigQuiet
import Derived.Deep.QuietTactic
import Derived.Deep.RegionHeld3
import Derived.Handy
namespace Go.Proofs.Ybulkcmvc
open Go.RowKit

/-- a contract whose world has but grown, taken up from a world that has grown out of W. -/
theorem grown_from {f : FuncId} {args : Array Value} {v : Value} (h : ∀ w, Calls Yba.prog f args w fun e w' => e = .returned v ∧ Below w.heap.size w w') (W X : World) (hX : Below W.heap.size W X) :
    Calls Yba.prog f args X fun e w' => e = .returned v ∧ Below W.heap.size W w' :=
  (h X).mono fun _ _ hh => ⟨hh.1, hX.trans (hh.2.mono hX.size)⟩
def cmpV (x y : Int) : Int := if x < y then -1 else if x = y then 0 else 1
theorem cmpV_le (x y : Int) : cmpV x y ≤ 0 ↔ x ≤ y := by
  unfold cmpV
  split
  · omega
  · split <;> omega
theorem bc {W X : World} (h : Below W.heap.size W X) {b o : Nat} (hb : b < W.heap.size) : X.cell? ⟨b, o, none⟩ = W.cell? ⟨b, o, none⟩ := h.cell (p := ⟨b, o, none⟩) hb
theorem cmp_fix (x y : Int) (w : World) : Calls Yba.prog 75 #[idV x, idV y] w fun e w' => e = .returned (.int .i64 (cmpV x y)) ∧ Below w.heap.size w w' := by
  rcases Int.lt_trichotomy x y with h | h | h
  · rw [show cmpV x y = -1 by simp [cmpV, h]]; exact cmp_lt x y h w
  · rw [show cmpV x y = 0 by simp [cmpV, h]]; exact cmp_eq x y h.symm w
  · rw [show cmpV x y = 1 by unfold cmpV; rw [if_neg (by omega), if_neg (by omega)]]; exact cmp_gt x y h w

theorem within_same (x a : Int) (w : World) : Calls Yba.prog 50 #[idV x, idV a, idV a] w fun e w' => e = .returned (.bool true) ∧ Below w.heap.size w w' := by
  have e := eqid a a
  have e' : (a == a) = true := by simp
  go_enter Yba.func50, Yba.ntmps50
  go_wp2
  go_ret
  exact ⟨rfl, by go_grown⟩
set_option maxHeartbeats 1000000 in
theorem within_other (x a b : Int) (hx : 0 ≤ x ∧ x < 256) (ha : 0 ≤ a ∧ a < 256) (hb : 0 ≤ b ∧ b < 256) (hab : a ≠ b) (w : World) :
    Calls Yba.prog 50 #[idV x, idV a, idV b] w fun e w' => e = .returned (.bool (decide ((x - a) % 256 ≠ 0 ∧ (x - a) % 256 ≤ (b - a) % 256))) ∧ Below w.heap.size w w' := by
  have e := eqid a b
  have e' : (a == b) = false := by simpa using hab
  go_enter Yba.func50, Yba.ntmps50
  go_wp2_with fail
  refine (distance_walk a x ha hx _).mono ?_
  rintro e1 w1 ⟨rfl, hb1⟩
  have q0 : w.heap.size + 1 + 1 < w1.heap.size := by have := hb1.size; simp at this; omega
  have x0 : w1.cell? ⟨w.heap.size, 0, none⟩ = some (.int .u64 0) := (hb1.cell (by simp; try omega)).trans (by simp [go_sem])
  have x1 : w1.cell? ⟨w.heap.size, 1, none⟩ = some (.int .u64 0) := (hb1.cell (by simp; try omega)).trans (by simp [go_sem])
  have x2 : w1.cell? ⟨w.heap.size, 2, none⟩ = some (.int .u64 x) := (hb1.cell (by simp; try omega)).trans (by simp [go_sem])
  have x3 : w1.cell? ⟨w.heap.size, 3, none⟩ = some (.int .u8 8) := (hb1.cell (by simp; try omega)).trans (by simp [go_sem])
  have a0 : w1.cell? ⟨w.heap.size + 1, 0, none⟩ = some (.int .u64 0) := (hb1.cell (by simp; try omega)).trans (by simp [go_sem])
  have a1 : w1.cell? ⟨w.heap.size + 1, 1, none⟩ = some (.int .u64 0) := (hb1.cell (by simp; try omega)).trans (by simp [go_sem])
  have a2 : w1.cell? ⟨w.heap.size + 1, 2, none⟩ = some (.int .u64 a) := (hb1.cell (by simp; try omega)).trans (by simp [go_sem])
  have a3 : w1.cell? ⟨w.heap.size + 1, 3, none⟩ = some (.int .u8 8) := (hb1.cell (by simp; try omega)).trans (by simp [go_sem])
  have b0 : w1.cell? ⟨w.heap.size + 1 + 1, 0, none⟩ = some (.int .u64 0) := (hb1.cell (by simp; try omega)).trans (by simp [go_sem])
  have b1 : w1.cell? ⟨w.heap.size + 1 + 1, 1, none⟩ = some (.int .u64 0) := (hb1.cell (by simp; try omega)).trans (by simp [go_sem])
  have b2 : w1.cell? ⟨w.heap.size + 1 + 1, 2, none⟩ = some (.int .u64 b) := (hb1.cell (by simp; try omega)).trans (by simp [go_sem])
  have b3 : w1.cell? ⟨w.heap.size + 1 + 1, 3, none⟩ = some (.int .u8 8) := (hb1.cell (by simp; try omega)).trans (by simp [go_sem])
  have HB : Hid (Below w.heap.size w w1) := by
    refine Below.trans ?_ (hb1.mono ?_)
    · go_grown
    · simp; omega
  clear hb1
  obtain ⟨d, hd⟩ : ∃ d, (x - a) % 256 = d := ⟨_, rfl⟩
  have hd0 : 0 ≤ d ∧ d < 256 := by omega
  rw [hd]
  have eD := eqid d 0
  go_wp2
  generalize hW : w1.alloc (.cells #[.int .u64 0, .int .u64 0, .int .u64 d, .int .u8 8] 36) = W
  have Wx0 : W.cell? ⟨w.heap.size, 0, none⟩ = some (.int .u64 0) := by rw [← hW]; rw [World.cell?_alloc_old _ _ _ (by simp; omega)]; assumption
  have Wx1 : W.cell? ⟨w.heap.size, 1, none⟩ = some (.int .u64 0) := by rw [← hW]; rw [World.cell?_alloc_old _ _ _ (by simp; omega)]; assumption
  have Wx2 : W.cell? ⟨w.heap.size, 2, none⟩ = some (.int .u64 x) := by rw [← hW]; rw [World.cell?_alloc_old _ _ _ (by simp; omega)]; assumption
  have Wx3 : W.cell? ⟨w.heap.size, 3, none⟩ = some (.int .u8 8) := by rw [← hW]; rw [World.cell?_alloc_old _ _ _ (by simp; omega)]; assumption
  have Wa0 : W.cell? ⟨w.heap.size + 1, 0, none⟩ = some (.int .u64 0) := by rw [← hW]; rw [World.cell?_alloc_old _ _ _ (by simp; omega)]; assumption
  have Wa1 : W.cell? ⟨w.heap.size + 1, 1, none⟩ = some (.int .u64 0) := by rw [← hW]; rw [World.cell?_alloc_old _ _ _ (by simp; omega)]; assumption
  have Wa2 : W.cell? ⟨w.heap.size + 1, 2, none⟩ = some (.int .u64 a) := by rw [← hW]; rw [World.cell?_alloc_old _ _ _ (by simp; omega)]; assumption
  have Wa3 : W.cell? ⟨w.heap.size + 1, 3, none⟩ = some (.int .u8 8) := by rw [← hW]; rw [World.cell?_alloc_old _ _ _ (by simp; omega)]; assumption
  have Wb0 : W.cell? ⟨w.heap.size + 1 + 1, 0, none⟩ = some (.int .u64 0) := by rw [← hW]; rw [World.cell?_alloc_old _ _ _ (by simp; omega)]; assumption
  have Wb1 : W.cell? ⟨w.heap.size + 1 + 1, 1, none⟩ = some (.int .u64 0) := by rw [← hW]; rw [World.cell?_alloc_old _ _ _ (by simp; omega)]; assumption
  have Wb2 : W.cell? ⟨w.heap.size + 1 + 1, 2, none⟩ = some (.int .u64 b) := by rw [← hW]; rw [World.cell?_alloc_old _ _ _ (by simp; omega)]; assumption
  have Wb3 : W.cell? ⟨w.heap.size + 1 + 1, 3, none⟩ = some (.int .u8 8) := by rw [← hW]; rw [World.cell?_alloc_old _ _ _ (by simp; omega)]; assumption
  have Wd0 : W.cell? ⟨w1.heap.size, 0, none⟩ = some (.int .u64 0) := by rw [← hW]; simp [go_sem]
  have Wd1 : W.cell? ⟨w1.heap.size, 1, none⟩ = some (.int .u64 0) := by rw [← hW]; simp [go_sem]
  have Wd2 : W.cell? ⟨w1.heap.size, 2, none⟩ = some (.int .u64 d) := by rw [← hW]; simp [go_sem]
  have Wd3 : W.cell? ⟨w1.heap.size, 3, none⟩ = some (.int .u8 8) := by rw [← hW]; simp [go_sem]
  have qW : w1.heap.size < W.heap.size := by rw [← hW]; simp
  have HBW : Hid (Below w.heap.size w W) := by
    rw [← hW]; exact HB.out.alloc (by omega) _
  clear hW x0 x1 x2 x3 a0 a1 a2 a3 b0 b1 b2 b3
  by_cases hz : d = 0
  · subst hz
    have ez : ((0 : Int) == 0) = true := rfl
    go_quiet (fail)
    go_wp2
    go_ret
    exact ⟨by rw [hd]; simp, below_dn2 HBW.out⟩
  · have ez : (d == 0) = false := by simpa using hz
    obtain ⟨g, hg⟩ : ∃ g, (b - a) % 256 = g := ⟨_, rfl⟩
    have hdist : ∀ w, Calls Yba.prog 58 #[idV a, idV b] w fun e w' => e = .returned (idV g) ∧ Below w.heap.size w w' := by rw [← hg]; exact distance_walk a b ha hb
    obtain ⟨c, hc⟩ : ∃ c, cmpV d g = c := ⟨_, rfl⟩
    have hcmp : ∀ w, Calls Yba.prog 75 #[idV d, idV g] w fun e w' => e = .returned (.int .i64 c) ∧ Below w.heap.size w w' := by rw [← hc]; exact cmp_fix d g
    have HC : Hid (c ≤ 0 ↔ d ≤ g) := by rw [← hc]; exact cmpV_le d g
    have HG : Hid ((b - a) % 256 = g) := hg
    clear hg hc
    have HD := And.intro (a := Hid _) (b := Hid _) hdist hcmp
    clear hdist hcmp
    have MK : Hid (∀ X, Below W.heap.size W X → X.cell? ⟨w.heap.size, 0, none⟩ = some (.int .u64 0) ∧ X.cell? ⟨w.heap.size, 1, none⟩ = some (.int .u64 0) ∧ X.cell? ⟨w.heap.size, 2, none⟩ = some (.int .u64 x) ∧ X.cell? ⟨w.heap.size, 3, none⟩ = some (.int .u8 8) ∧ X.cell? ⟨w.heap.size + 1, 0, none⟩ = some (.int .u64 0) ∧ X.cell? ⟨w.heap.size + 1, 1, none⟩ = some (.int .u64 0) ∧ X.cell? ⟨w.heap.size + 1, 2, none⟩ = some (.int .u64 a) ∧ X.cell? ⟨w.heap.size + 1, 3, none⟩ = some (.int .u8 8) ∧ X.cell? ⟨w.heap.size + 1 + 1, 0, none⟩ = some (.int .u64 0) ∧ X.cell? ⟨w.heap.size + 1 + 1, 1, none⟩ = some (.int .u64 0) ∧ X.cell? ⟨w.heap.size + 1 + 1, 2, none⟩ = some (.int .u64 b) ∧ X.cell? ⟨w.heap.size + 1 + 1, 3, none⟩ = some (.int .u8 8) ∧ X.cell? ⟨w1.heap.size, 0, none⟩ = some (.int .u64 0) ∧ X.cell? ⟨w1.heap.size, 1, none⟩ = some (.int .u64 0) ∧ X.cell? ⟨w1.heap.size, 2, none⟩ = some (.int .u64 d) ∧ X.cell? ⟨w1.heap.size, 3, none⟩ = some (.int .u8 8)) := fun X hX => ⟨(bc hX (by omega)).trans Wx0, (bc hX (by omega)).trans Wx1, (bc hX (by omega)).trans Wx2, (bc hX (by omega)).trans Wx3, (bc hX (by omega)).trans Wa0, (bc hX (by omega)).trans Wa1, (bc hX (by omega)).trans Wa2, (bc hX (by omega)).trans Wa3, (bc hX (by omega)).trans Wb0, (bc hX (by omega)).trans Wb1, (bc hX (by omega)).trans Wb2, (bc hX (by omega)).trans Wb3, (bc hX (by omega)).trans Wd0, (bc hX (by omega)).trans Wd1, (bc hX (by omega)).trans Wd2, (bc hX (by omega)).trans Wd3⟩
    go_region_held3 (fun X => X.cell? ⟨w.heap.size, 0, none⟩ = some (.int .u64 0) ∧ X.cell? ⟨w.heap.size, 1, none⟩ = some (.int .u64 0) ∧ X.cell? ⟨w.heap.size, 2, none⟩ = some (.int .u64 x) ∧ X.cell? ⟨w.heap.size, 3, none⟩ = some (.int .u8 8) ∧ X.cell? ⟨w.heap.size + 1, 0, none⟩ = some (.int .u64 0) ∧ X.cell? ⟨w.heap.size + 1, 1, none⟩ = some (.int .u64 0) ∧ X.cell? ⟨w.heap.size + 1, 2, none⟩ = some (.int .u64 a) ∧ X.cell? ⟨w.heap.size + 1, 3, none⟩ = some (.int .u8 8) ∧ X.cell? ⟨w.heap.size + 1 + 1, 0, none⟩ = some (.int .u64 0) ∧ X.cell? ⟨w.heap.size + 1 + 1, 1, none⟩ = some (.int .u64 0) ∧ X.cell? ⟨w.heap.size + 1 + 1, 2, none⟩ = some (.int .u64 b) ∧ X.cell? ⟨w.heap.size + 1 + 1, 3, none⟩ = some (.int .u8 8) ∧ X.cell? ⟨w1.heap.size, 0, none⟩ = some (.int .u64 0) ∧ X.cell? ⟨w1.heap.size, 1, none⟩ = some (.int .u64 0) ∧ X.cell? ⟨w1.heap.size, 2, none⟩ = some (.int .u64 d) ∧ X.cell? ⟨w1.heap.size, 3, none⟩ = some (.int .u8 8))
      (exact MK.out _ (by repeat' (first | with_reducible exact Below.refl _ _ | with_reducible assumption | with_reducible apply Below.drew | with_reducible apply below_dn | with_reducible apply Below.setCell | with_reducible apply Below.alloc | (first | omega | (simp; done) | (simp; omega)))))
      (first
        | (go_at_call 58; with_reducible refine (grown_from HD.1.out W _ ?_).mono ?_; (repeat' (first | with_reducible exact Below.refl _ _ | with_reducible assumption | with_reducible apply Below.drew | with_reducible apply below_dn2 | with_reducible apply Below.alloc | (first | omega | (simp; done) | (simp; omega)))); rintro e w2 ⟨rfl, k2⟩)
        | (go_at_call 75; with_reducible refine (grown_from HD.2.out W _ ?_).mono ?_; (repeat' (first | with_reducible exact Below.refl _ _ | with_reducible assumption | with_reducible apply Below.drew | with_reducible apply below_dn2 | with_reducible apply Below.alloc | (first | omega | (simp; done) | (simp; omega)))); rintro e w3 ⟨rfl, k3⟩))
    go_wp2
    go_ret
    refine ⟨?_, HBW.out.trans (k3.mono (by omega))⟩
    rw [hd, HG.out]
    have := HC.out
    have e : decide (c ≤ 0) = decide (d ≠ 0 ∧ d ≤ g) := by simp only [decide_eq_decide]; omega
    rw [e]
    rfl
/-- (ID).Within on ids of 8 bits. -/
theorem within_walk (x a b : Int) (hx : 0 ≤ x ∧ x < 256) (ha : 0 ≤ a ∧ a < 256) (hb : 0 ≤ b ∧ b < 256) (w : World) :
    Calls Yba.prog 50 #[idV x, idV a, idV b] w fun e w' => e = .returned (.bool (decide (a = b ∨ (x - a) % 256 ≠ 0 ∧ (x - a) % 256 ≤ (b - a) % 256))) ∧ Below w.heap.size w w' := by
  by_cases h : a = b
  · subst h
    refine (within_same x a w).mono ?_
    rintro e w' ⟨rfl, hb⟩
    exact ⟨by simp, hb⟩
  · refine (within_other x a b hx ha hb h w).mono ?_
    rintro e w' ⟨rfl, hb⟩
    exact ⟨by simp [h], hb⟩
end Go.Proofs.Ybulkcmvc
