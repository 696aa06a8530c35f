import Derived.Test.YbulkcmvcTarget
import Derived.WalkKit
import Derived.WalkSpells
import Derived.BigRegion
import Derived.BigQuiet
import Derived.Deep.QuietTactic
import Derived.Deep.RegionHeld3
import Derived.Handy
namespace Go.Proofs.Ybulkcmvc
open Go.RowKit

theorem firstPast_self (T : Nat) (s l lo : Int) (nv ev : Value) (w : World) (hT : w.heap[T]? = some (tobj s l nv ev)) :
    Calls Yba.prog 39 #[.pointer (some ⟨T, 0, none⟩), .int .i64 lo, idV s] w fun e w' => e = .returned (.int .i64 8) ∧ Below w.heap.size w w' := by
  have hlt := lt_t hT
  have c0 : w.cell? ⟨T, 0, none⟩ = some (.int .u64 0) := by rw [cell_t hT]; rfl
  have c1 : w.cell? ⟨T, 1, none⟩ = some (.int .u64 0) := by rw [cell_t hT]; rfl
  have c2 : w.cell? ⟨T, 2, none⟩ = some (.int .u64 s) := by rw [cell_t hT]; rfl
  have c3 : w.cell? ⟨T, 3, none⟩ = some (.int .u8 8) := by rw [cell_t hT]; rfl
  have e0 := eqid s s
  have e1 : (s == s) = true := by simp
  clear hT
  go_enter Yba.func39, Yba.ntmps39
  go_wp2_with fail
  refine (bits_walk s _).mono ?_
  rintro e w1 ⟨rfl, hb⟩
  have HB : Hid (Below w.heap.size w w1) := by
    refine Below.trans ?_ (hb.mono ?_)
    · go_grown
    · simp; omega
  clear hb
  go_wp2
  go_ret
  exact ⟨rfl, HB.out⟩
set_option maxHeartbeats 1000000 in
theorem firstPast_other (T : Nat) (s l p : Int) (lo : Nat) (nv ev : Value) (hs : 0 ≤ s ∧ s < 256) (hp : 0 ≤ p ∧ p < 256) (hne : p ≠ s) (hlo : lo ≤ R s p) (w : World) (hT : w.heap[T]? = some (tobj s l nv ev)) :
    Calls Yba.prog 39 #[.pointer (some ⟨T, 0, none⟩), .int .i64 lo, idV p] w fun e w' => e = .returned (.int .i64 (R s p)) ∧ Below w.heap.size w w' := by
  have hlt := lt_t hT
  obtain ⟨n, hn⟩ : ∃ n : Nat, R s p = n := ⟨_, rfl⟩
  have hn' : Lib.bitLen ((p - s) % 256).toNat = n := by rw [← hn]; unfold R; rw [if_neg hne]
  obtain ⟨d, hd⟩ : ∃ d : Int, (p - s) % 256 = d := ⟨_, rfl⟩
  have hd1 : 0 < d ∧ d < 256 := by omega
  rw [hd] at hn'
  obtain ⟨b1, b2, b3, b4⟩ := bl_bounds ⟨d.toNat, by omega⟩ (by simp; omega)
  simp only [hn'] at b1 b2 b3 b4
  rw [hn] at hlo ⊢
  have hdist : ∀ w, Calls Yba.prog 58 #[idV s, idV p] w fun e w' => e = .returned (idV d) ∧ Below w.heap.size w w' := by rw [← hd]; exact distance_walk s p hs hp
  have hbl : ∀ w, Calls Yba.prog 59 #[idV d] w fun e w' => e = .returned (.int .i64 n) ∧ Below w.heap.size w w' := by rw [← hn']; exact bitlen_walk d hd1.1 hd1.2
  obtain ⟨k, rfl⟩ : ∃ k, n = k + 1 := ⟨n - 1, by omega⟩
  obtain ⟨g, hg⟩ : ∃ g : Int, (s + 2 ^ k) % 256 = g := ⟨_, rfl⟩
  have hk : k < 8 := by omega
  have h2k : (2 : Int) ^ k ≤ d := by
    have : ((2 ^ k : Nat) : Int) ≤ d := by simp at b3; omega
    simpa using this
  have h2k0 : (0 : Int) < 2 ^ k := Int.pow_pos (by decide)
  have htg : ∀ w, w.heap[T]? = some (tobj s l nv ev) → Calls Yba.prog 34 #[.pointer (some ⟨T, 0, none⟩), .int .i64 k] w fun e w' => e = .returned (idV g) ∧ Below w.heap.size w w' := fun w h => by
    rw [← hg]; exact target_walk T s l nv ev k hk hs w h
  have hwi : ∀ w, Calls Yba.prog 50 #[idV g, idV s, idV p] w fun e w' => e = .returned (.bool true) ∧ Below w.heap.size w w' := fun w => by
    refine (within_walk g s p (by omega) hs hp w).mono ?_
    rintro e w' ⟨rfl, hb⟩
    refine ⟨?_, hb⟩
    have : (g - s) % 256 = 2 ^ k := by omega
    rw [decide_eq_true]
    right
    rw [this, hd]
    omega
  have ne : (p == s) = false := by simpa using hne
  have c0 : w.cell? ⟨T, 0, none⟩ = some (.int .u64 0) := by rw [cell_t hT]; rfl
  have c1 : w.cell? ⟨T, 1, none⟩ = some (.int .u64 0) := by rw [cell_t hT]; rfl
  have c2 : w.cell? ⟨T, 2, none⟩ = some (.int .u64 s) := by rw [cell_t hT]; rfl
  have c3 : w.cell? ⟨T, 3, none⟩ = some (.int .u8 8) := by rw [cell_t hT]; rfl
  have e0 := eqid p s
  have HT : Hid (w.heap[T]? = some (tobj s l nv ev)) := hT
  have HC1 := And.intro (a := Hid _) (b := Hid _) hdist hbl
  have HC2 := And.intro (a := Hid _) (b := Hid _) htg hwi
  have HLO : Hid (lo ≤ k + 1) := hlo
  clear hT hdist hbl htg hwi hd1 b1 b2 b3 b4 h2k h2k0 hlo hn hn' hd hg hne
  go_enter Yba.func39, Yba.ntmps39
  go_wp2_with fail
  refine (HC1.1.out _).mono ?_
  rintro e w1 ⟨rfl, hb1⟩
  go_wp2_with fail
  refine (HC1.2.out _).mono ?_
  rintro e w2 ⟨rfl, hb2⟩
  have hb : Below (w.heap.size + 1 + 1) ((w.alloc (.cells #[.int .u64 0, .int .u64 0, .int .u64 p, .int .u8 8] 36)).alloc (.cells #[.int .u64 0, .int .u64 0, .int .u64 s, .int .u8 8] 36)) w2 := by
    refine Below.trans (hb1.mono (by simp)) (hb2.mono ?_)
    have := hb1.size; simpa using this
  clear hb1 hb2
  have q0 : w.heap.size + 1 < w2.heap.size := by have := hb.size; simp at this; omega
  have x0 : w2.cell? ⟨w.heap.size, 0, none⟩ = some (.int .u64 0) := (hb.cell (by simp; try omega)).trans (by simp [go_sem])
  have x1 : w2.cell? ⟨w.heap.size, 1, none⟩ = some (.int .u64 0) := (hb.cell (by simp; try omega)).trans (by simp [go_sem])
  have x2 : w2.cell? ⟨w.heap.size, 2, none⟩ = some (.int .u64 p) := (hb.cell (by simp; try omega)).trans (by simp [go_sem])
  have x3 : w2.cell? ⟨w.heap.size, 3, none⟩ = some (.int .u8 8) := (hb.cell (by simp; try omega)).trans (by simp [go_sem])
  have a0 : w2.cell? ⟨w.heap.size + 1, 0, none⟩ = some (.int .u64 0) := (hb.cell (by simp; try omega)).trans (by simp [go_sem])
  have a1 : w2.cell? ⟨w.heap.size + 1, 1, none⟩ = some (.int .u64 0) := (hb.cell (by simp; try omega)).trans (by simp [go_sem])
  have a2 : w2.cell? ⟨w.heap.size + 1, 2, none⟩ = some (.int .u64 s) := (hb.cell (by simp; try omega)).trans (by simp [go_sem])
  have a3 : w2.cell? ⟨w.heap.size + 1, 3, none⟩ = some (.int .u8 8) := (hb.cell (by simp; try omega)).trans (by simp [go_sem])
  have hT2 : w2.heap[T]? = some (tobj s l nv ev) := keep_t hb (by omega) (alloc_t (alloc_t HT.out))
  have HB : Hid (Below w.heap.size w w2) := by
    refine Below.trans ?_ (hb.mono ?_)
    · go_grown
    · omega
  clear hb
  have ek : ((k : Int) + 1 - 1) = k := by omega
  have ek' : wrap64 ((k : Int) + 1 - 1) = k := by unfold wrap64; omega
  go_wp2
  have HT2 : Hid (w2.heap[T]? = some (tobj s l nv ev)) := hT2
  have HTG : Hid (∀ X, Below w2.heap.size w2 X → Calls Yba.prog 34 #[.pointer (some ⟨T, 0, none⟩), .int .i64 k] X fun e w' => e = .returned (idV g) ∧ Below w2.heap.size w2 w') := fun X hX =>
    (HC2.1.out X (keep_t hX (lt_t HT2.out) HT2.out)).mono fun _ _ hh => ⟨hh.1, hX.trans (hh.2.mono hX.size)⟩
  clear hT2
  have MK : Hid (∀ X, Below w2.heap.size w2 X → X.cell? ⟨w.heap.size, 0, none⟩ = some (.int .u64 0) ∧ X.cell? ⟨w.heap.size, 1, none⟩ = some (.int .u64 0) ∧ X.cell? ⟨w.heap.size, 2, none⟩ = some (.int .u64 p) ∧ X.cell? ⟨w.heap.size, 3, none⟩ = some (.int .u8 8) ∧ X.cell? ⟨w.heap.size + 1, 0, none⟩ = some (.int .u64 0) ∧ X.cell? ⟨w.heap.size + 1, 1, none⟩ = some (.int .u64 0) ∧ X.cell? ⟨w.heap.size + 1, 2, none⟩ = some (.int .u64 s) ∧ X.cell? ⟨w.heap.size + 1, 3, none⟩ = some (.int .u8 8)) := fun X hX => ⟨(bc hX (by omega)).trans x0, (bc hX (by omega)).trans x1, (bc hX (by omega)).trans x2, (bc hX (by omega)).trans x3, (bc hX (by omega)).trans a0, (bc hX (by omega)).trans a1, (bc hX (by omega)).trans a2, (bc hX (by omega)).trans a3⟩
  go_region_held3 (fun X => X.cell? ⟨w.heap.size, 0, none⟩ = some (.int .u64 0) ∧ X.cell? ⟨w.heap.size, 1, none⟩ = some (.int .u64 0) ∧ X.cell? ⟨w.heap.size, 2, none⟩ = some (.int .u64 p) ∧ X.cell? ⟨w.heap.size, 3, none⟩ = some (.int .u8 8) ∧ X.cell? ⟨w.heap.size + 1, 0, none⟩ = some (.int .u64 0) ∧ X.cell? ⟨w.heap.size + 1, 1, none⟩ = some (.int .u64 0) ∧ X.cell? ⟨w.heap.size + 1, 2, none⟩ = some (.int .u64 s) ∧ X.cell? ⟨w.heap.size + 1, 3, none⟩ = some (.int .u8 8))
    (exact MK.out _ (by repeat' (first | with_reducible exact Below.refl _ _ | with_reducible assumption | with_reducible apply Below.drew | with_reducible apply below_dn2 | with_reducible apply Below.setCell | with_reducible apply Below.alloc | (first | omega | (simp; done) | (simp; omega)))))
    (first
      | (go_at_call 34; with_reducible refine (HTG.out _ ?_).mono ?_; (repeat' (first | with_reducible exact Below.refl _ _ | with_reducible assumption | with_reducible apply Below.drew | with_reducible apply below_dn2 | with_reducible apply Below.setCell | with_reducible apply Below.alloc | (first | omega | (simp; done) | (simp; omega)))); rintro e w3 ⟨rfl, k3⟩)
      | (go_at_call 50; with_reducible refine (grown_from HC2.2.out w2 _ ?_).mono ?_; (repeat' (first | with_reducible exact Below.refl _ _ | with_reducible assumption | with_reducible apply Below.drew | with_reducible apply below_dn2 | with_reducible apply Below.setCell | with_reducible apply Below.alloc | (first | omega | (simp; done) | (simp; omega)))); rintro e w4 ⟨rfl, k4⟩))
  have hlo : (lo : Int) ≤ (k : Int) + 1 := by have := HLO.out; omega
  have hm : ¬ ((k : Int) + 1 < (lo : Int)) := by omega
  go_wp2
  go_ret
  refine ⟨?_, HB.out.trans (k4.mono (by omega))⟩
  show Ending.returned (Value.int IntKind.i64 (max (lo : Int) ((k : Int) + 1))) = _
  rw [show max (lo : Int) ((k : Int) + 1) = (k : Int) + 1 by omega]
/-- (*chordTable).reach. -/
theorem reach_walk (T : Nat) (s l p : Int) (i : Nat) (nv ev : Value) (hs : 0 ≤ s ∧ s < 256) (hp : 0 ≤ p ∧ p < 256) (hi : i + 1 ≤ R s p) (w : World) (hT : w.heap[T]? = some (tobj s l nv ev)) :
    Calls Yba.prog 28 #[.pointer (some ⟨T, 0, none⟩), .int .i64 i, peerV p] w fun e w' => e = .returned (.int .i64 (R s p)) ∧ Below w.heap.size w w' := by
  have h8 := R_le s p
  have hfp : ∀ w, w.heap[T]? = some (tobj s l nv ev) → Calls Yba.prog 39 #[.pointer (some ⟨T, 0, none⟩), .int .i64 ((i + 1 : Nat) : Int), idV p] w fun e w' => e = .returned (.int .i64 (R s p)) ∧ Below w.heap.size w w' := fun w h => by
    by_cases hps : p = s
    · subst hps
      rw [show R p p = 8 by simp [R]]
      exact firstPast_self T p l _ nv ev w h
    · exact firstPast_other T s l p (i + 1) nv ev hs hp hps hi w h
  have HF : Hid _ := hfp
  have HT : Hid (w.heap[T]? = some (tobj s l nv ev)) := hT
  have hb0 : (i : Int) < 9223372036854775807 := by omega
  clear hfp hT
  go_enter Yba.func28, Yba.ntmps28
  go_wp2_with fail
  have e1 : ((i + 1 : Nat) : Int) = (i : Int) + 1 := by omega
  rw [← e1]
  refine (HF.out _ (alloc_t HT.out)).mono ?_
  rintro e w1 ⟨rfl, hb1⟩
  have HB : Hid (Below w.heap.size w w1) := by
    refine Below.trans ?_ (hb1.mono ?_)
    · go_grown
    · simp
  clear hb1
  go_wp2
  go_ret
  exact ⟨rfl, HB.out⟩

/-- predecessorShows answers something, whatever the predecessor. -/
theorem shows_peer (a v t : Int) (ha : 0 ≤ a ∧ a < 256) (hv : 0 ≤ v ∧ v < 256) (ht : 0 ≤ t ∧ t < 256) (w : World) :
    Calls Yba.prog 38 #[idV a, peerV v, idV t] w fun e w' => ∃ b, e = .returned (.bool b) ∧ Below w.heap.size w w' := by
  go_enter Yba.func38, Yba.ntmps38
  go_wp2_with fail
  refine (iszero_peer v _).mono ?_
  rintro e w1 ⟨rfl, hb1⟩
  have q0 : w.heap.size + 1 + 1 < w1.heap.size := by have := hb1.size; simp at this; omega
  have x0 : w1.cell? ⟨w.heap.size, 0, none⟩ = some (.int .u64 0) := (hb1.cell (by simp; try omega)).trans (by simp [go_sem])
  have x1 : w1.cell? ⟨w.heap.size, 1, none⟩ = some (.int .u64 0) := (hb1.cell (by simp; try omega)).trans (by simp [go_sem])
  have x2 : w1.cell? ⟨w.heap.size, 2, none⟩ = some (.int .u64 a) := (hb1.cell (by simp; try omega)).trans (by simp [go_sem])
  have x3 : w1.cell? ⟨w.heap.size, 3, none⟩ = some (.int .u8 8) := (hb1.cell (by simp; try omega)).trans (by simp [go_sem])
  have a0 : w1.cell? ⟨w.heap.size + 1, 0, none⟩ = some (.int .u64 0) := (hb1.cell (by simp; try omega)).trans (by simp [go_sem])
  have a1 : w1.cell? ⟨w.heap.size + 1, 1, none⟩ = some (.int .u64 0) := (hb1.cell (by simp; try omega)).trans (by simp [go_sem])
  have a2 : w1.cell? ⟨w.heap.size + 1, 2, none⟩ = some (.int .u64 v) := (hb1.cell (by simp; try omega)).trans (by simp [go_sem])
  have a3 : w1.cell? ⟨w.heap.size + 1, 3, none⟩ = some (.int .u8 8) := (hb1.cell (by simp; try omega)).trans (by simp [go_sem])
  have b0 : w1.cell? ⟨w.heap.size + 1 + 1, 0, none⟩ = some (.int .u64 0) := (hb1.cell (by simp; try omega)).trans (by simp [go_sem])
  have b1 : w1.cell? ⟨w.heap.size + 1 + 1, 1, none⟩ = some (.int .u64 0) := (hb1.cell (by simp; try omega)).trans (by simp [go_sem])
  have b2 : w1.cell? ⟨w.heap.size + 1 + 1, 2, none⟩ = some (.int .u64 t) := (hb1.cell (by simp; try omega)).trans (by simp [go_sem])
  have b3 : w1.cell? ⟨w.heap.size + 1 + 1, 3, none⟩ = some (.int .u8 8) := (hb1.cell (by simp; try omega)).trans (by simp [go_sem])
  have HB : Hid (Below w.heap.size w w1) := by
    refine Below.trans ?_ (hb1.mono ?_)
    · go_grown
    · simp; omega
  clear hb1
  go_wp2_with fail
  refine (within_walk t v a ht hv ha _).mono ?_
  rintro e w2 ⟨rfl, hb2⟩
  have HB2 : Hid (Below w.heap.size w w2) := HB.out.trans (hb2.mono (by omega))
  clear hb2
  go_wp2
  go_ret
  exact ⟨_, rfl, HB2.out⟩
theorem shows_zero (a t : Int) (w : World) :
    Calls Yba.prog 38 #[idV a, zeroPeer, idV t] w fun e w' => ∃ b, e = .returned (.bool b) ∧ Below w.heap.size w w' := by
  go_enter Yba.func38, Yba.ntmps38
  go_wp2_with fail
  refine (iszero_zero _).mono ?_
  rintro e w1 ⟨rfl, hb1⟩
  have q0 : w.heap.size + 1 + 1 < w1.heap.size := by have := hb1.size; simp at this; omega
  have x0 : w1.cell? ⟨w.heap.size, 0, none⟩ = some (.int .u64 0) := (hb1.cell (by simp; try omega)).trans (by simp [go_sem])
  have x1 : w1.cell? ⟨w.heap.size, 1, none⟩ = some (.int .u64 0) := (hb1.cell (by simp; try omega)).trans (by simp [go_sem])
  have x2 : w1.cell? ⟨w.heap.size, 2, none⟩ = some (.int .u64 a) := (hb1.cell (by simp; try omega)).trans (by simp [go_sem])
  have x3 : w1.cell? ⟨w.heap.size, 3, none⟩ = some (.int .u8 8) := (hb1.cell (by simp; try omega)).trans (by simp [go_sem])
  have b0 : w1.cell? ⟨w.heap.size + 1 + 1, 0, none⟩ = some (.int .u64 0) := (hb1.cell (by simp; try omega)).trans (by simp [go_sem])
  have b1 : w1.cell? ⟨w.heap.size + 1 + 1, 1, none⟩ = some (.int .u64 0) := (hb1.cell (by simp; try omega)).trans (by simp [go_sem])
  have b2 : w1.cell? ⟨w.heap.size + 1 + 1, 2, none⟩ = some (.int .u64 t) := (hb1.cell (by simp; try omega)).trans (by simp [go_sem])
  have b3 : w1.cell? ⟨w.heap.size + 1 + 1, 3, none⟩ = some (.int .u8 8) := (hb1.cell (by simp; try omega)).trans (by simp [go_sem])
  have HB : Hid (Below w.heap.size w w1) := by
    refine Below.trans ?_ (hb1.mono ?_)
    · go_grown
    · simp; omega
  clear hb1
  have e0 := eqid t a
  go_wp2
  go_ret
  exact ⟨_, rfl, HB.out⟩
end Go.Proofs.Ybulkcmvc
