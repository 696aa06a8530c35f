import Derived.Test.YbulkcmvcPass
import Derived.WalkKit
import Derived.WalkSpells
import Derived.BigRegion
import Derived.BigQuiet
import Derived.Deep.QuietTactic
import Derived.Deep.RegionHeld3
import Derived.Handy
namespace Go.Proofs.Ybulkcmvc
open Go.RowKit
/-- what the node knows of the ring: itself, and its successors. -/
abbrev viewV (s : Int) (sv : Value) : Value := .agg #[.int .u64 0, .int .u64 0, .int .u64 s, .int .u8 8, .string ⟨#[]⟩, .string ⟨#[]⟩, .slice none 0 0, sv, .slice none 0 0, .slice none 0 0, .bool false, .bool false]
theorem succ_none (s x : Int) (a : Option Addr) (c : Nat) (w : World) :
    Calls Yba.prog 33 #[viewV s (.slice a 0 c), idV x] w fun e w' => e = .returned (.tuple #[zeroPeer, .bool false]) ∧ Below w.heap.size w w' := by
  go_enter Yba.func33, Yba.ntmps33
  go_wp2
  refine wp_loop_rounds 1 ?_
  rw [rounds_succ]
  go_wp2
  refine bodyPost_ret (v := .tuple #[zeroPeer, .bool false]) (by simp [results, Yba.results33, go_sem]) rfl ?_
  exact ⟨rfl, (((Below.refl _ _).alloc (Nat.le_refl _) _).alloc (by simp) _).alloc (by simp; omega) _⟩
def Past (E : Nat → Nat) (i k : Nat) : Prop := ∀ j, j < k → E j < 2 ^ i

set_option maxRecDepth 100000 in
set_option maxHeartbeats 1000000 in
theorem succ_some (s i G m c : Nat) (E : Nat → Nat) (hs : s < 256) (hi : i < 8) (hm : m < 256) (hE : ∀ k, k < m → 1 ≤ E k ∧ E k ≤ 255) (w : World) (hG : G < w.heap.size)
    (hc : ∀ k, k < m → ∀ j, j < 6 → w.cell? ⟨G, k * 6 + j, none⟩ = (pcells (some ((s + E k) % 256)))[j]?) :
    Calls Yba.prog 33 #[viewV s (.slice (some ⟨G, 0, none⟩) m c), idV (((s + 2 ^ i) % 256 : Nat) : Int)] w fun e w' => ((∃ k, k < m ∧ Past E i k ∧ 2 ^ i ≤ E k ∧ e = .returned (.tuple #[peerV (((s + E k) % 256 : Nat) : Int), .bool true])) ∨ Past E i m ∧ e = .returned (.tuple #[zeroPeer, .bool false])) ∧ Below w.heap.size w w' := by
  obtain ⟨t, ht⟩ : ∃ t : Nat, (s + 2 ^ i) % 256 = t := ⟨_, rfl⟩
  rw [ht]
  have ht2 : t < 256 := by omega
  have HC : Hid _ := hc
  clear hc
  have HE : Hid _ := hE
  clear hE
  have HI : Hid (i < 8) := hi
  have HT : Hid ((s + 2 ^ i) % 256 = t) := ht
  clear hi ht
  go_enter Yba.func33, Yba.ntmps33
  go_wp2
  generalize hW : (((w.alloc (.cells #[.int .u64 0, .int .u64 0, .int .u64 s, .int .u8 8, .string ⟨#[]⟩, .string ⟨#[]⟩, .slice none 0 0, .slice (some ⟨G, 0, none⟩) m c, .slice none 0 0, .slice none 0 0, .bool false, .bool false] 44)).alloc (.cells #[.int .u64 0, .int .u64 0, .int .u64 t, .int .u8 8] 36)).alloc (.cells #[.int .u64 0, .int .u64 0, .int .u64 0, .int .u8 0, .string ⟨#[]⟩, .string ⟨#[]⟩] 38)) = W
  have HBW : Hid (Below w.heap.size w W) := by
    rw [← hW]
    exact (((Below.refl _ _).alloc (Nat.le_refl _) _).alloc (by simp) _).alloc (by simp; omega) _
  have qW : w.heap.size + 2 < W.heap.size := by rw [← hW]; simp
  have v0 : W.cell? ⟨w.heap.size, 0, none⟩ = some (.int .u64 0) := by rw [← hW]; simp [go_sem]
  have v1 : W.cell? ⟨w.heap.size, 1, none⟩ = some (.int .u64 0) := by rw [← hW]; simp [go_sem]
  have v2 : W.cell? ⟨w.heap.size, 2, none⟩ = some (.int .u64 s) := by rw [← hW]; simp [go_sem]
  have v3 : W.cell? ⟨w.heap.size, 3, none⟩ = some (.int .u8 8) := by rw [← hW]; simp [go_sem]
  have k0 : W.cell? ⟨w.heap.size + 1, 0, none⟩ = some (.int .u64 0) := by rw [← hW]; simp [go_sem]
  have k1 : W.cell? ⟨w.heap.size + 1, 1, none⟩ = some (.int .u64 0) := by rw [← hW]; simp [go_sem]
  have k2 : W.cell? ⟨w.heap.size + 1, 2, none⟩ = some (.int .u64 t) := by rw [← hW]; simp [go_sem]
  have k3 : W.cell? ⟨w.heap.size + 1, 3, none⟩ = some (.int .u8 8) := by rw [← hW]; simp [go_sem]
  have y0 : W.cell? ⟨w.heap.size + 1 + 1, 0, none⟩ = some (.int .u64 0) := by rw [← hW]; simp [go_sem]
  have y1 : W.cell? ⟨w.heap.size + 1 + 1, 1, none⟩ = some (.int .u64 0) := by rw [← hW]; simp [go_sem]
  have y2 : W.cell? ⟨w.heap.size + 1 + 1, 2, none⟩ = some (.int .u64 0) := by rw [← hW]; simp [go_sem]
  have y3 : W.cell? ⟨w.heap.size + 1 + 1, 3, none⟩ = some (.int .u8 0) := by rw [← hW]; simp [go_sem]
  have y4 : W.cell? ⟨w.heap.size + 1 + 1, 4, none⟩ = some (.string ⟨#[]⟩) := by rw [← hW]; simp [go_sem]
  have y5 : W.cell? ⟨w.heap.size + 1 + 1, 5, none⟩ = some (.string ⟨#[]⟩) := by rw [← hW]; simp [go_sem]
  have yf : ∀ o, W.frozen? ⟨w.heap.size + 1 + 1, o, none⟩ = false := by intro o; rw [← hW]; simp [go_sem]
  clear hW
  go_loopw [12] (fun vk wr => ∃ k : Nat, k ≤ m ∧ vk = .int .i64 k ∧ Past E i k ∧ Below W.heap.size W wr) (fun vk _ => m - (intOf vk).toNat)
  case atStart => exact ⟨0, by omega, rfl, fun j hj => by omega, Below.refl _ _⟩
  case round =>
    obtain ⟨k, hk, rfl, hpast, hb⟩ := hrel
    have qr := hb.size
    have rv0 : wr.cell? ⟨w.heap.size, 0, none⟩ = some (.int .u64 0) := (hb.cell (p := ⟨w.heap.size, 0, none⟩) (by simp only; omega)).trans v0
    have rv1 : wr.cell? ⟨w.heap.size, 1, none⟩ = some (.int .u64 0) := (hb.cell (p := ⟨w.heap.size, 1, none⟩) (by simp only; omega)).trans v1
    have rv2 : wr.cell? ⟨w.heap.size, 2, none⟩ = some (.int .u64 s) := (hb.cell (p := ⟨w.heap.size, 2, none⟩) (by simp only; omega)).trans v2
    have rv3 : wr.cell? ⟨w.heap.size, 3, none⟩ = some (.int .u8 8) := (hb.cell (p := ⟨w.heap.size, 3, none⟩) (by simp only; omega)).trans v3
    have rk0 : wr.cell? ⟨w.heap.size + 1, 0, none⟩ = some (.int .u64 0) := (hb.cell (p := ⟨w.heap.size + 1, 0, none⟩) (by simp only; omega)).trans k0
    have rk1 : wr.cell? ⟨w.heap.size + 1, 1, none⟩ = some (.int .u64 0) := (hb.cell (p := ⟨w.heap.size + 1, 1, none⟩) (by simp only; omega)).trans k1
    have rk2 : wr.cell? ⟨w.heap.size + 1, 2, none⟩ = some (.int .u64 t) := (hb.cell (p := ⟨w.heap.size + 1, 2, none⟩) (by simp only; omega)).trans k2
    have rk3 : wr.cell? ⟨w.heap.size + 1, 3, none⟩ = some (.int .u8 8) := (hb.cell (p := ⟨w.heap.size + 1, 3, none⟩) (by simp only; omega)).trans k3
    have ry0 : wr.cell? ⟨w.heap.size + 1 + 1, 0, none⟩ = some (.int .u64 0) := (hb.cell (p := ⟨w.heap.size + 1 + 1, 0, none⟩) (by simp only; omega)).trans y0
    have ry1 : wr.cell? ⟨w.heap.size + 1 + 1, 1, none⟩ = some (.int .u64 0) := (hb.cell (p := ⟨w.heap.size + 1 + 1, 1, none⟩) (by simp only; omega)).trans y1
    have ry2 : wr.cell? ⟨w.heap.size + 1 + 1, 2, none⟩ = some (.int .u64 0) := (hb.cell (p := ⟨w.heap.size + 1 + 1, 2, none⟩) (by simp only; omega)).trans y2
    have ry3 : wr.cell? ⟨w.heap.size + 1 + 1, 3, none⟩ = some (.int .u8 0) := (hb.cell (p := ⟨w.heap.size + 1 + 1, 3, none⟩) (by simp only; omega)).trans y3
    have ry4 : wr.cell? ⟨w.heap.size + 1 + 1, 4, none⟩ = some (.string ⟨#[]⟩) := (hb.cell (p := ⟨w.heap.size + 1 + 1, 4, none⟩) (by simp only; omega)).trans y4
    have ry5 : wr.cell? ⟨w.heap.size + 1 + 1, 5, none⟩ = some (.string ⟨#[]⟩) := (hb.cell (p := ⟨w.heap.size + 1 + 1, 5, none⟩) (by simp only; omega)).trans y5
    have rf : ∀ o, wr.frozen? ⟨w.heap.size + 1 + 1, o, none⟩ = false := fun o => (hb.frozen (p := ⟨w.heap.size + 1 + 1, o, none⟩) (by simp only; omega)).trans (yf o)
    have HB : Hid (Below W.heap.size W wr) := hb
    have HP : Hid (Past E i k) := hpast
    clear hb hpast
    by_cases hk2 : k < m
    · have q1 : (k : Int) < (m : Int) := by omega
      obtain ⟨v, hv⟩ : ∃ v : Nat, (s + E k) % 256 = v := ⟨_, rfl⟩
      have hv2 : v < 256 := by omega
      have hG2 : G ≠ wr.heap.size := by omega
      have cc := HC.out k hk2
      rw [hv] at cc
      have c0 : wr.cell? ⟨G, k * 6, none⟩ = some (.int .u64 0) := ((HB.out.cell (p := ⟨G, k * 6 + 0, none⟩) (by simp only; omega)).trans (HBW.out.cell (p := ⟨G, k * 6 + 0, none⟩) hG)).trans (cc 0 (by decide))
      have c1 : wr.cell? ⟨G, k * 6 + 1, none⟩ = some (.int .u64 0) := ((HB.out.cell (p := ⟨G, k * 6 + 1, none⟩) (by simp only; omega)).trans (HBW.out.cell (p := ⟨G, k * 6 + 1, none⟩) hG)).trans (cc 1 (by decide))
      have c2 : wr.cell? ⟨G, k * 6 + 2, none⟩ = some (.int .u64 v) := ((HB.out.cell (p := ⟨G, k * 6 + 2, none⟩) (by simp only; omega)).trans (HBW.out.cell (p := ⟨G, k * 6 + 2, none⟩) hG)).trans (cc 2 (by decide))
      have c3 : wr.cell? ⟨G, k * 6 + 3, none⟩ = some (.int .u8 8) := ((HB.out.cell (p := ⟨G, k * 6 + 3, none⟩) (by simp only; omega)).trans (HBW.out.cell (p := ⟨G, k * 6 + 3, none⟩) hG)).trans (cc 3 (by decide))
      have c4 : wr.cell? ⟨G, k * 6 + 4, none⟩ = some (.string ⟨#[]⟩) := ((HB.out.cell (p := ⟨G, k * 6 + 4, none⟩) (by simp only; omega)).trans (HBW.out.cell (p := ⟨G, k * 6 + 4, none⟩) hG)).trans (cc 4 (by decide))
      have c5 : wr.cell? ⟨G, k * 6 + 5, none⟩ = some (.string ⟨#[]⟩) := ((HB.out.cell (p := ⟨G, k * 6 + 5, none⟩) (by simp only; omega)).trans (HBW.out.cell (p := ⟨G, k * 6 + 5, none⟩) hG)).trans (cc 5 (by decide))
      clear cc
      have hw := within_walk t s v (by omega) (by omega) (by omega)
      have hdec : decide ((s : Int) = (v : Int) ∨ ((t : Int) - (s : Int)) % 256 ≠ 0 ∧ ((t : Int) - (s : Int)) % 256 ≤ ((v : Int) - (s : Int)) % 256) = decide (2 ^ i ≤ E k) := by
        have h := within_iff (d := E k) hs HI.out (HE.out k hk2).1 (HE.out k hk2).2
        rw [hv, show ((s : Int) + 2 ^ i) % 256 = (t : Int) by rw [← HT.out]; simp] at h
        exact decide_eq_decide.2 h
      rw [hdec] at hw
      have HW : Hid _ := hw
      clear hw hdec
      obtain ⟨b, hb⟩ : ∃ b, decide (2 ^ i ≤ E k) = b := ⟨_, rfl⟩
      rw [hb] at HW
      have n0 : w.heap.size < wr.heap.size := by omega
      have n1 : w.heap.size + 1 < wr.heap.size := by omega
      have n2 : w.heap.size + 1 + 1 < wr.heap.size := by omega
      go_wp2_with fail
      refine (HW.out _).mono ?_
      rintro e w2 ⟨rfl, hb2⟩
      generalize hX : wr.alloc _ = X at hb2
      have qX : wr.heap.size + 1 = X.heap.size := by rw [← hX]; simp
      have HBX : Hid (Below W.heap.size W X) := by rw [← hX]; exact HB.out.alloc (by omega) _
      have x0 : X.cell? ⟨wr.heap.size, 0, none⟩ = some (.int .u64 0) := by rw [← hX]; simp [go_sem]
      have x1 : X.cell? ⟨wr.heap.size, 1, none⟩ = some (.int .u64 0) := by rw [← hX]; simp [go_sem]
      have x2 : X.cell? ⟨wr.heap.size, 2, none⟩ = some (.int .u64 v) := by rw [← hX]; simp [go_sem]
      have x3 : X.cell? ⟨wr.heap.size, 3, none⟩ = some (.int .u8 8) := by rw [← hX]; simp [go_sem]
      have x4 : X.cell? ⟨wr.heap.size, 4, none⟩ = some (.string ⟨#[]⟩) := by rw [← hX]; simp [go_sem]
      have x5 : X.cell? ⟨wr.heap.size, 5, none⟩ = some (.string ⟨#[]⟩) := by rw [← hX]; simp [go_sem]
      clear hX
      have d0 : w2.cell? ⟨wr.heap.size, 0, none⟩ = some (.int .u64 0) := (hb2.cell (p := ⟨wr.heap.size, 0, none⟩) (by simp only; omega)).trans x0
      have d1 : w2.cell? ⟨wr.heap.size, 1, none⟩ = some (.int .u64 0) := (hb2.cell (p := ⟨wr.heap.size, 1, none⟩) (by simp only; omega)).trans x1
      have d2 : w2.cell? ⟨wr.heap.size, 2, none⟩ = some (.int .u64 v) := (hb2.cell (p := ⟨wr.heap.size, 2, none⟩) (by simp only; omega)).trans x2
      have d3 : w2.cell? ⟨wr.heap.size, 3, none⟩ = some (.int .u8 8) := (hb2.cell (p := ⟨wr.heap.size, 3, none⟩) (by simp only; omega)).trans x3
      have d4 : w2.cell? ⟨wr.heap.size, 4, none⟩ = some (.string ⟨#[]⟩) := (hb2.cell (p := ⟨wr.heap.size, 4, none⟩) (by simp only; omega)).trans x4
      have d5 : w2.cell? ⟨wr.heap.size, 5, none⟩ = some (.string ⟨#[]⟩) := (hb2.cell (p := ⟨wr.heap.size, 5, none⟩) (by simp only; omega)).trans x5
      have g0 : w2.cell? ⟨w.heap.size + 1 + 1, 0, none⟩ = some (.int .u64 0) := ((hb2.cell (p := ⟨w.heap.size + 1 + 1, 0, none⟩) (by simp only; omega)).trans (HBX.out.cell (p := ⟨w.heap.size + 1 + 1, 0, none⟩) (by simp only; omega))).trans y0
      have g1 : w2.cell? ⟨w.heap.size + 1 + 1, 1, none⟩ = some (.int .u64 0) := ((hb2.cell (p := ⟨w.heap.size + 1 + 1, 1, none⟩) (by simp only; omega)).trans (HBX.out.cell (p := ⟨w.heap.size + 1 + 1, 1, none⟩) (by simp only; omega))).trans y1
      have g2 : w2.cell? ⟨w.heap.size + 1 + 1, 2, none⟩ = some (.int .u64 0) := ((hb2.cell (p := ⟨w.heap.size + 1 + 1, 2, none⟩) (by simp only; omega)).trans (HBX.out.cell (p := ⟨w.heap.size + 1 + 1, 2, none⟩) (by simp only; omega))).trans y2
      have g3 : w2.cell? ⟨w.heap.size + 1 + 1, 3, none⟩ = some (.int .u8 0) := ((hb2.cell (p := ⟨w.heap.size + 1 + 1, 3, none⟩) (by simp only; omega)).trans (HBX.out.cell (p := ⟨w.heap.size + 1 + 1, 3, none⟩) (by simp only; omega))).trans y3
      have g4 : w2.cell? ⟨w.heap.size + 1 + 1, 4, none⟩ = some (.string ⟨#[]⟩) := ((hb2.cell (p := ⟨w.heap.size + 1 + 1, 4, none⟩) (by simp only; omega)).trans (HBX.out.cell (p := ⟨w.heap.size + 1 + 1, 4, none⟩) (by simp only; omega))).trans y4
      have g5 : w2.cell? ⟨w.heap.size + 1 + 1, 5, none⟩ = some (.string ⟨#[]⟩) := ((hb2.cell (p := ⟨w.heap.size + 1 + 1, 5, none⟩) (by simp only; omega)).trans (HBX.out.cell (p := ⟨w.heap.size + 1 + 1, 5, none⟩) (by simp only; omega))).trans y5
      have gf : ∀ o, w2.frozen? ⟨w.heap.size + 1 + 1, o, none⟩ = false := fun o => ((hb2.frozen (p := ⟨w.heap.size + 1 + 1, o, none⟩) (by simp only; omega)).trans (HBX.out.frozen (p := ⟨w.heap.size + 1 + 1, o, none⟩) (by simp only; omega))).trans (yf o)
      have HB2 : Hid (Below X.heap.size X w2) := hb2
      clear hb2
      cases b
      · go_wp2
        refine ⟨⟨k + 1, by omega, by go_num, fun j hj => ?_, ?_⟩, by simp [intOf]; omega⟩
        · rcases Nat.lt_or_ge j k with q | q
          · exact HP.out j q
          · have : j = k := by omega
            subst this
            have := of_decide_eq_false hb
            omega
        · exact HBX.out.trans (HB2.out.mono (by omega))
      · go_wp2
        refine bodyPost_ret (v := .tuple #[peerV v, .bool true]) (by simp [results, Yba.results33, go_sem, g0, g1, g2, g3, g4, g5]) rfl ?_
        refine ⟨.inl ⟨k, hk2, HP.out, of_decide_eq_true hb, by rw [hv]⟩, ?_⟩
        exact ((((((HBW.out.trans ((HBX.out.trans (HB2.out.mono (by omega))).mono (by omega))).setCell (by simp only; omega) _).setCell (by simp only; omega) _).setCell (by simp only; omega) _).setCell (by simp only; omega) _).setCell (by simp only; omega) _).setCell (by simp only; omega) _
    · obtain rfl : k = m := by omega
      go_wp2
      refine bodyPost_ret (v := .tuple #[zeroPeer, .bool false]) (by simp [results, Yba.results33, go_sem, ry0, ry1, ry2, ry3, ry4, ry5]) rfl ?_
      refine ⟨.inr ⟨HP.out, rfl⟩, ?_⟩
      exact ((((((HBW.out.trans (HB.out.mono (by omega))).setCell (by simp only; omega) _).setCell (by simp only; omega) _).setCell (by simp only; omega) _).setCell (by simp only; omega) _).setCell (by simp only; omega) _).setCell (by simp only; omega) _
end Go.Proofs.Ybulkcmvc
