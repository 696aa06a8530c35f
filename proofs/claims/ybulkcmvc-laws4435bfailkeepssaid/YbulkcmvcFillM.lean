import Derived.Test.YbulkcmvcFillE
import Derived.WalkKit
import Derived.WalkSpells
import Derived.BigRegion
import Derived.BigQuiet
import Derived.Deep.QuietTactic
import Derived.Deep.RegionHeld3
import Derived.Handy
namespace Go.Proofs.Ybulkcmvc
open Go.RowKit

set_option maxRecDepth 100000 in
set_option maxHeartbeats 2000000 in
theorem fill_mid (base T k g1 c1 g2 c2 frm to p : Nat) (s l : Int) (L0 : Runs) (hk : L0.length = k) (hk2 : k < 9) (hft : frm < to) (hto : to < 8) (w : World)
    (hlo : ∀ j, j < k → (L0.getD j (none, 0)).2 ≤ frm) (h0 : k = 0 → frm = 0) (hst : 0 < k → (L0.getD (k - 1) (none, 0)).2 = frm) (hnp : 0 < k → (L0.getD (k - 1) (none, 0)).1 ≠ some p) (hbT : base ≤ w.heap.size)
    (hF : Fing w base T s l (.slice (some ⟨g1, 0, none⟩) (k + 1) c1) (.slice (some ⟨g2, 0, none⟩) (k + 1) c2) (L0 ++ [(none, 8)])) :
    Calls Yba.prog 29 #[.pointer (some ⟨T, 13, none⟩), .int .i64 frm, .int .i64 to, peerV p] w fun e w' => e = .returned (.tuple #[]) ∧ ∃ nv' ev', Fing w' base T s l nv' ev' (L0 ++ [(some p, to), (none, 8)]) ∧ Kept (In T (.slice (some ⟨g1, 0, none⟩) (k + 1) c1) (.slice (some ⟨g2, 0, none⟩) (k + 1) c2)) w w' := by
  have hL : (L0 ++ [((none : Option Nat), 8)]).length = k + 1 := by simp [hk]
  have hF' : Fing w base T s l (.slice (some ⟨g1, 0, none⟩) (L0 ++ [((none : Option Nat), 8)]).length c1) (.slice (some ⟨g2, 0, none⟩) (L0 ++ [((none : Option Nat), 8)]).length c2) (L0 ++ [(none, 8)]) := by rw [hL]; exact hF
  have t13 : w.cell? ⟨T, 13, none⟩ = some (.slice (some ⟨g1, 0, none⟩) (k + 1) c1) := by rw [cell_t hF.t]; rfl
  have t14 : w.cell? ⟨T, 14, none⟩ = some (.slice (some ⟨g2, 0, none⟩) (k + 1) c2) := by rw [cell_t hF.t]; rfl
  have hkL : (L0 ++ [((none : Option Nat), 8)])[k]'(by omega) = (none, 8) := by simp [← hk]
  have n0 := hF'.node_at k (by omega) 0 (by decide)
  have n1 := hF'.node_at k (by omega) 1 (by decide)
  have n2 := hF'.node_at k (by omega) 2 (by decide)
  have n3 := hF'.node_at k (by omega) 3 (by decide)
  have n4 := hF'.node_at k (by omega) 4 (by decide)
  have n5 := hF'.node_at k (by omega) 5 (by decide)
  rw [hkL] at n0 n1 n2 n3 n4 n5
  simp only [pcells, pw, pb, List.getElem?_cons_zero, List.getElem?_cons_succ, Nat.add_zero] at n0 n1 n2 n3 n4 n5
  have m0 := hF'.end_at k (by omega)
  rw [hkL] at m0
  simp only at m0
  have qT := lt_t hF.t
  have q1 := (own_cap hF'.nodes).2.2.2
  have q2 := (own_cap hF'.ends).2.2.2
  have hends : ∀ j, j < k + 1 → w.cell? ⟨g2, j, none⟩ = some (.int .u8 (((L0 ++ [((none : Option Nat), 8)]).getD j (none, 0)).2 : Nat)) := by
    intro j hj
    rw [hF'.end_at j (by omega)]
    simp [List.getD_eq_getElem?_getD, List.getElem?_eq_getElem (show j < (L0 ++ [((none : Option Nat), 8)]).length by omega)]
  have hgl : ∀ j, j < k → (L0 ++ [((none : Option Nat), 8)]).getD j (none, 0) = L0.getD j (none, 0) := by
    intro j hj
    simp [List.getD_eq_getElem?_getD, List.getElem?_append_left (show j < L0.length by omega)]
  have hrun : ∀ i w', frm ≤ i → i < 8 → Below w.heap.size w w' → Calls Yba.prog 36 #[.pointer (some ⟨T, 13, none⟩), .int .i64 (i : Nat)] w' fun e w'' => e = .returned (.int .i64 k) ∧ w'' = w' := by
    intro i w' h1 h2 hb
    refine run_walk T 13 g2 (k + 1) c2 k i (fun j => (((L0 ++ [((none : Option Nat), 8)]).getD j (none, 0)).2 : Nat)) (by omega) (by omega) (by omega) ?_ ?_ w' ?_ ?_
    · intro j hj; have := hlo j hj; rw [hgl j hj]; omega
    · intro j hj hjn
      obtain rfl : j = k := by omega
      have e8 : (L0 ++ [((none : Option Nat), 8)]).getD j (none, 0) = (none, 8) := by simp [List.getD_eq_getElem?_getD, ← hk]
      rw [e8]
      simp only
      omega
    · exact (hb.cell (p := ⟨T, 14, none⟩) qT).trans t14
    · intro j hj
      exact (hb.cell (p := ⟨g2, j, none⟩) q2).trans (hends j hj)
  have hstart : ∀ w', Below w.heap.size w w' → Calls Yba.prog 40 #[.pointer (some ⟨T, 13, none⟩), .int .i64 k] w' fun e w'' => e = .returned (.int .i64 frm) ∧ w'' = w' := by
    intro w' hb
    refine start_walk T 13 g2 (k + 1) c2 k frm (by omega) (by omega) (by omega) w' ((hb.cell (p := ⟨T, 14, none⟩) qT).trans t14) h0 ?_
    intro hk0
    refine (hb.cell (p := ⟨g2, k - 1, none⟩) q2).trans ?_
    rw [hends (k - 1) (by omega), hgl (k - 1) (by omega), hst hk0]
  have HR : Hid _ := hrun
  have HS : Hid _ := hstart
  have ee := eqzp p
  have ek : ((k : Int) == (k : Int)) = true := by simp
  have b1 : (k : Int) < (k : Int) + 1 := by omega
  have qT1 : T < w.heap.size + 1 := by omega
  have qT2 : T < w.heap.size + 1 + 1 := by omega
  have qT3 : T < w.heap.size + 1 + 1 + 1 := by omega
  have qg11 : g1 < w.heap.size + 1 := by omega
  have qg12 : g1 < w.heap.size + 1 + 1 := by omega
  have qg13 : g1 < w.heap.size + 1 + 1 + 1 := by omega
  have qg21 : g2 < w.heap.size + 1 := by omega
  have qg22 : g2 < w.heap.size + 1 + 1 := by omega
  have qg23 : g2 < w.heap.size + 1 + 1 + 1 := by omega
  have HF : Hid _ := hF
  have HNP : Hid (0 < k → (L0.getD (k - 1) (none, 0)).1 ≠ some p) := hnp
  clear hF hF' hrun hstart hlo hkL hends hgl hst h0 hL hnp
  have b8 : (to : Int) < 8 := by omega
  have b9 : IntKind.u8.wrap (to : Int) = to := by rw [IntKind.wrap_u8]; omega
  go_enter Yba.func29, Yba.ntmps29
  go_wp2_with fail
  refine (HR.out frm _ (Nat.le_refl _) (by omega) (by go_grown)).mono ?_
  rintro e w1 ⟨rfl, rfl⟩
  go_wp2_with fail
  rw [show (to : Int) - 1 = ((to - 1 : Nat) : Int) by omega]
  refine (HR.out (to - 1) _ (by omega) (by omega) (by go_grown)).mono ?_
  rintro e w1 ⟨rfl, rfl⟩
  go_wp2
  go_quiet (fail)
  go_wp2_with fail
  refine (HS.out _ (by repeat' (first | with_reducible exact Below.refl _ _ | with_reducible apply below_dn2 | with_reducible apply Below.alloc | (simp; done) | (simp; omega)))).mono ?_
  rintro e w1 ⟨rfl, rfl⟩
  go_wp2
  go_region
  go_wp2
  generalize hW : ((((w.alloc (.cells #[.int .u64 0, .int .u64 0, .int .u64 p, .int .u8 8, .string ⟨#[]⟩, .string ⟨#[]⟩] 38)).drewN nq).alloc (.cells #[.int .u64 0, .int .u64 0, .int .u64 p, .int .u8 8, .string ⟨#[]⟩, .string ⟨#[]⟩, .int .u64 0, .int .u64 0, .int .u64 0, .int .u8 0, .string ⟨#[]⟩, .string ⟨#[]⟩, .int .u64 0, .int .u64 0, .int .u64 0, .int .u8 0, .string ⟨#[]⟩, .string ⟨#[]⟩] 107)).alloc (.cells #[.int .u8 to, .int .u8 8, .int .u8 0] 108)).drew = W
  have KW : Kept (fun _ => False) w W := by
    rw [← hW]
    repeat' (first | with_reducible exact Kept.refl _ _ | with_reducible apply Kept.alloc | with_reducible apply Kept.drewN | with_reducible apply Kept.drew)
  have a0 : W.cell? ⟨w.heap.size + 1, 0, none⟩ = some (.int .u64 0) := by rw [← hW]; simp [go_sem]
  have a1 : W.cell? ⟨w.heap.size + 1, 1, none⟩ = some (.int .u64 0) := by rw [← hW]; simp [go_sem]
  have a2 : W.cell? ⟨w.heap.size + 1, 2, none⟩ = some (.int .u64 p) := by rw [← hW]; simp [go_sem]
  have a3 : W.cell? ⟨w.heap.size + 1, 3, none⟩ = some (.int .u8 8) := by rw [← hW]; simp [go_sem]
  have a4 : W.cell? ⟨w.heap.size + 1, 4, none⟩ = some (.string ⟨#[]⟩) := by rw [← hW]; simp [go_sem]
  have a5 : W.cell? ⟨w.heap.size + 1, 5, none⟩ = some (.string ⟨#[]⟩) := by rw [← hW]; simp [go_sem]
  have a6 : W.cell? ⟨w.heap.size + 1, 6, none⟩ = some (.int .u64 0) := by rw [← hW]; simp [go_sem]
  have a7 : W.cell? ⟨w.heap.size + 1, 7, none⟩ = some (.int .u64 0) := by rw [← hW]; simp [go_sem]
  have a8 : W.cell? ⟨w.heap.size + 1, 8, none⟩ = some (.int .u64 0) := by rw [← hW]; simp [go_sem]
  have a9 : W.cell? ⟨w.heap.size + 1, 9, none⟩ = some (.int .u8 0) := by rw [← hW]; simp [go_sem]
  have a10 : W.cell? ⟨w.heap.size + 1, 10, none⟩ = some (.string ⟨#[]⟩) := by rw [← hW]; simp [go_sem]
  have a11 : W.cell? ⟨w.heap.size + 1, 11, none⟩ = some (.string ⟨#[]⟩) := by rw [← hW]; simp [go_sem]
  have x0 : W.cell? ⟨w.heap.size + 1 + 1, 0, none⟩ = some (.int .u8 to) := by rw [← hW]; simp [go_sem]
  have x1 : W.cell? ⟨w.heap.size + 1 + 1, 1, none⟩ = some (.int .u8 8) := by rw [← hW]; simp [go_sem]
  have y0 : W.cell? ⟨w.heap.size, 0, none⟩ = some (.int .u64 0) := by rw [← hW]; simp [go_sem]
  have y1 : W.cell? ⟨w.heap.size, 1, none⟩ = some (.int .u64 0) := by rw [← hW]; simp [go_sem]
  have y2 : W.cell? ⟨w.heap.size, 2, none⟩ = some (.int .u64 p) := by rw [← hW]; simp [go_sem]
  have y3 : W.cell? ⟨w.heap.size, 3, none⟩ = some (.int .u8 8) := by rw [← hW]; simp [go_sem]
  have y4 : W.cell? ⟨w.heap.size, 4, none⟩ = some (.string ⟨#[]⟩) := by rw [← hW]; simp [go_sem]
  have y5 : W.cell? ⟨w.heap.size, 5, none⟩ = some (.string ⟨#[]⟩) := by rw [← hW]; simp [go_sem]
  have qW : w.heap.size + 1 + 1 < W.heap.size := by rw [← hW]; simp; try omega
  have hFW := HF.out.kept KW (fun _ _ x => x)
  have u13 : W.cell? ⟨T, 13, none⟩ = some (.slice (some ⟨g1, 0, none⟩) (k + 1) c1) := by rw [cell_t hFW.t]; rfl
  have hnW : W.ownsRow base 38 6 (.slice (some ⟨g1, 0, none⟩) (k + 1) c1) (k + 1) (flat L0 ++ flat [(none, 8)]) := by
    have := hFW.nodes; rw [flat_append] at this; simpa [hk] using this
  have heW : W.ownsRow base 5 1 (.slice (some ⟨g2, 0, none⟩) (k + 1) c2) (k + 1) (endsV L0 ++ endsV [(none, 8)]) := by
    have := hFW.ends; simpa [hk, endsV] using this
  have hlen0 : (flat L0).length = k * 6 := by rw [flat_len, hk]
  have hlen1 : (endsV L0).length = k * 1 := by simp [endsV, hk]
  clear hW
  have hrep : Calls Yba.prog 41 #[.slice (some ⟨g1, 0, none⟩) (k + 1) c1, .int .i64 k, .int .i64 ((k : Int) + 1), .slice (some ⟨w.heap.size + 1, 0, none⟩) 2 3] W.drew fun e w' => ∃ v', e = .returned v' ∧ w'.ownsRow base 38 6 v' (k + 2) (flat L0 ++ flat [(some p, to), (none, 8)]) ∧ W.drew.grownBy w' (some g1) := by
    refine replace41 base g1 k c1 2 3 _ (flat L0) (flat [(none, 8)]) (flat [(some p, to), (none, 8)]) (by omega) (by decide) (by decide) _ hnW hlen0 rfl ?_ ?_ (by have := KW.size; show base ≤ W.heap.size; omega)
    · intro j u hj
      match j, hj with
      | 0, hj => simp [flat, pcells, pw, pb] at hj; subst hj; exact a0
      | 1, hj => simp [flat, pcells, pw, pb] at hj; subst hj; exact a1
      | 2, hj => simp [flat, pcells, pw, pb] at hj; subst hj; exact a2
      | 3, hj => simp [flat, pcells, pw, pb] at hj; subst hj; exact a3
      | 4, hj => simp [flat, pcells, pw, pb] at hj; subst hj; exact a4
      | 5, hj => simp [flat, pcells, pw, pb] at hj; subst hj; exact a5
      | 6, hj => simp [flat, pcells, pw, pb] at hj; subst hj; exact a6
      | 7, hj => simp [flat, pcells, pw, pb] at hj; subst hj; exact a7
      | 8, hj => simp [flat, pcells, pw, pb] at hj; subst hj; exact a8
      | 9, hj => simp [flat, pcells, pw, pb] at hj; subst hj; exact a9
      | 10, hj => simp [flat, pcells, pw, pb] at hj; subst hj; exact a10
      | 11, hj => simp [flat, pcells, pw, pb] at hj; subst hj; exact a11
      | j + 12, hj => simp [flat, pcells] at hj
    · exact flat_one _
  have HREP : Hid _ := hrep
  have ew : IntKind.i64.wrap ((k : Int) + 1) = (k : Int) + 1 := by rw [IntKind.wrap_i64]; omega
  have HW := And.intro (a := Hid _) (b := Hid _) hnW heW
  have HFW : Hid _ := hFW
  have HLEN := And.intro (a := Hid _) (b := Hid _) hlen0 hlen1
  clear hrep hnW heW hFW hlen0 hlen1
  go_region_with (go_at_call 41; refine Calls.mono HREP.out ?_; rintro e w1 ⟨v1, rfl, hown1, hgrow1⟩; obtain ⟨h1, d1, rfl⟩ := own_some hown1 (by omega); obtain ⟨z1, z2, z3, z4, z5⟩ := set13 (W := W.drew) HFW.out.t HW.1.out HW.2.out hown1 hgrow1; have y13 : w1.cell? ⟨T, 13, none⟩ = some (.slice (some ⟨g1, 0, none⟩) (k + 1) c1) := (by rw [cell_t z1]; rfl); have f13 : w1.frozen? ⟨T, 13, none⟩ = false := free_t z1 13; have HZ2 : Hid _ := z2; have HZ3 : Hid _ := z3; have HZ4 : Hid _ := z4; have HZ5 : Hid _ := z5; clear z1 z2 z3 z4 z5 hown1 hgrow1)
  obtain ⟨W2, hW2⟩ : ∃ W2, W2 = w1.setCell ⟨T, 13, none⟩ (.slice (some ⟨h1, 0, none⟩) (k + 2) d1) := ⟨_, rfl⟩
  rw [← hW2] at HZ2 HZ3 HZ4 HZ5 ⊢
  have KA : ∀ b o, w.heap.size ≤ b → b < W.heap.size → W2.cell? ⟨b, o, none⟩ = W.cell? ⟨b, o, none⟩ := fun b o hb hb2 => HZ5.out.cell (p := ⟨b, o, none⟩) hb2 (fun h => by rcases h with h | h <;> simp at h <;> omega)
  have v0 := (KA (w.heap.size + 1 + 1) 0 (by omega) (by omega)).trans x0
  have v1 := (KA (w.heap.size + 1 + 1) 1 (by omega) (by omega)).trans x1
  have r0 := (KA w.heap.size 0 (by omega) (by omega)).trans y0
  have r1 := (KA w.heap.size 1 (by omega) (by omega)).trans y1
  have r2 := (KA w.heap.size 2 (by omega) (by omega)).trans y2
  have r3 := (KA w.heap.size 3 (by omega) (by omega)).trans y3
  have r4 := (KA w.heap.size 4 (by omega) (by omega)).trans y4
  have r5 := (KA w.heap.size 5 (by omega) (by omega)).trans y5
  have qW2 : w.heap.size + 1 + 1 < W2.heap.size := Nat.lt_of_lt_of_le qW HZ5.out.size
  have u14 : W2.cell? ⟨T, 14, none⟩ = some (.slice (some ⟨g2, 0, none⟩) (k + 1) c2) := by rw [cell_t HZ2.out]; rfl
  have hrep2 : Calls Yba.prog 42 #[.slice (some ⟨g2, 0, none⟩) (k + 1) c2, .int .i64 k, .int .i64 ((k : Int) + 1), .slice (some ⟨w.heap.size + 1 + 1, 0, none⟩) 2 3] W2.drew fun e w' => ∃ v', e = .returned v' ∧ w'.ownsRow base 5 1 v' (k + 2) (endsV L0 ++ [.int .u8 to, .int .u8 8]) ∧ W2.drew.grownBy w' (some g2) := by
    refine replace42 base g2 k c2 2 3 _ (endsV L0) (endsV [(none, 8)]) [.int .u8 to, .int .u8 8] (by omega) (by decide) (by decide) _ HZ4.out HLEN.2.out rfl ?_ ?_ (by have := KW.size; show base ≤ W2.heap.size; omega)
    · intro j u hj
      match j, hj with
      | 0, hj => simp at hj; subst hj; exact v0
      | 1, hj => simp at hj; subst hj; exact v1
      | j + 2, hj => simp at hj
    · intro u hu
      simp at hu
      rcases hu with rfl | rfl <;> rfl
  have HREP2 : Hid _ := hrep2
  clear hrep2 HREP hW2
  clear u13 a0 a1 a2 a3 a4 a5 a6 a7 a8 a9 a10 a11
  go_wp2
  go_region_with (go_at_call 42; refine Calls.mono HREP2.out ?_; rintro e w2 ⟨v2, rfl, hown2, hgrow2⟩; obtain ⟨h2, d2, rfl⟩ := own_some hown2 (by omega); obtain ⟨z1, z2, z3, z4, z5⟩ := set14 (W := W2.drew) HZ2.out HZ4.out HZ3.out hown2 hgrow2; have y14 : w2.cell? ⟨T, 14, none⟩ = some (.slice (some ⟨g2, 0, none⟩) (k + 1) c2) := (by rw [cell_t z1]; rfl); have f14 : w2.frozen? ⟨T, 14, none⟩ = false := free_t z1 14; have HY2 : Hid _ := z2; have HY3 : Hid _ := z3; have HY4 : Hid _ := z4; have HY5 : Hid _ := z5; clear z1 z2 z3 z4 z5 hown2 hgrow2)
  obtain ⟨W3, hW3⟩ : ∃ W3, W3 = w2.setCell ⟨T, 14, none⟩ (.slice (some ⟨h2, 0, none⟩) (k + 2) d2) := ⟨_, rfl⟩
  rw [← hW3] at HY2 HY3 HY4 HY5 ⊢
  have KB : ∀ b o, w.heap.size ≤ b → b < W2.heap.size → W3.cell? ⟨b, o, none⟩ = W2.cell? ⟨b, o, none⟩ := fun b o hb hb2 => HY5.out.cell (p := ⟨b, o, none⟩) hb2 (fun h => by rcases h with h | h <;> simp at h <;> omega)
  have o0 := (KB w.heap.size 0 (by omega) (by omega)).trans r0
  have o1 := (KB w.heap.size 1 (by omega) (by omega)).trans r1
  have o2 := (KB w.heap.size 2 (by omega) (by omega)).trans r2
  have o3 := (KB w.heap.size 3 (by omega) (by omega)).trans r3
  have o4 := (KB w.heap.size 4 (by omega) (by omega)).trans r4
  have o5 := (KB w.heap.size 5 (by omega) (by omega)).trans r5
  have hF3 : Fing W3 base T s l (.slice (some ⟨h1, 0, none⟩) (L0 ++ [(some p, to), (none, 8)]).length d1) (.slice (some ⟨h2, 0, none⟩) (L0 ++ [(some p, to), (none, 8)]).length d2) (L0 ++ [(some p, to), (none, 8)]) := by
    have hl : (L0 ++ [(some p, to), (none, 8)]).length = k + 2 := by simp [hk]
    refine ⟨?_, ?_, ?_⟩
    · rw [hl]; exact HY2.out
    · rw [hl, flat_append]; exact HY4.out
    · have he : endsV (L0 ++ [(some p, to), (none, 8)]) = endsV L0 ++ [.int .u8 to, .int .u8 8] := by simp [endsV]
      rw [hl, he]; exact HY3.out
  have hlen : (L0 ++ [(some p, to), (none, 8)]).length = k + 2 := by simp [hk]
  have t13' : W3.cell? ⟨T, 13, none⟩ = some (.slice (some ⟨h1, 0, none⟩) (k + 2) d1) := by rw [cell_t HY2.out]; rfl
  have K3 : Hid (Kept (In T (.slice (some ⟨g1, 0, none⟩) (k + 1) c1) (.slice (some ⟨g2, 0, none⟩) (k + 1) c2)) w W3) := by
    have k1 : Kept (In T (.slice (some ⟨g1, 0, none⟩) (k + 1) c1) (.slice (some ⟨g2, 0, none⟩) (k + 1) c2)) w W.drew := (⟨KW.os, KW.tape, KW.output, KW.size, fun i hi _ => KW.block i hi (fun x => x)⟩ : Kept _ w W).drew
    have k2 := k1.trans HZ5.out (fun n hn h => by rcases h with h | h; exact .inl h; exact .inr (.inl (by rw [h]; rfl)))
    exact k2.drew.trans HY5.out (fun n hn h => by rcases h with h | h; exact .inl h; exact .inr (.inr (by rw [h]; rfl)))
  have g17 : (k : Int) + 1 < (k : Int) + 2 := by omega
  have m1 := hF3.node_at (k + 1) (by omega) 0 (by decide)
  have m2 := hF3.node_at (k + 1) (by omega) 1 (by decide)
  have m3 := hF3.node_at (k + 1) (by omega) 2 (by decide)
  have m4 := hF3.node_at (k + 1) (by omega) 3 (by decide)
  have m5 := hF3.node_at (k + 1) (by omega) 4 (by decide)
  have m6 := hF3.node_at (k + 1) (by omega) 5 (by decide)
  have hLk : (L0 ++ [(some p, to), (none, 8)])[k + 1]'(by omega) = (none, 8) := by simp [← hk]
  rw [hLk] at m1 m2 m3 m4 m5 m6
  simp only [pcells, pw, pb, List.getElem?_cons_zero, List.getElem?_cons_succ, Nat.add_zero] at m1 m2 m3 m4 m5 m6
  clear hLk
  have HF3 : Hid _ := hF3
  clear hF3 hW3 n0 n1 n2 n3 n4 n5 m0 t13 t14 u14 y0 y1 y2 y3 y4 y5 r0 r1 r2 r3 r4 r5 KA KB HREP2
  go_wp2
  go_quiet (fail)
  rcases Nat.eq_zero_or_pos k with hk0 | hk0
  · have g19 : decide ((0 : Int) < (k : Int)) = false := by simp; omega
    go_wp2
    go_quiet (fail)
    go_wp2
    go_returns
    exact ⟨rfl, _, _, HF3.out.kept ((Kept.refl (fun _ => False) W3).drewN.drewN) (fun _ _ x => x), K3.out.drewN.drewN⟩
  · obtain ⟨i, hi⟩ : ∃ i, k = i + 1 := ⟨k - 1, by omega⟩
    have hiL : i < L0.length := by omega
    have hq := HNP.out hk0
    rw [hi, Nat.add_sub_cancel, List.getD_eq_getElem?_getD, List.getElem?_eq_getElem hiL] at hq
    simp only [Option.getD_some] at hq
    have hLi : (L0 ++ [(some p, to), (none, 8)])[i]'(by omega) = L0[i] := by rw [List.getElem_append_left hiL]
    have s0 := HF3.out.node_at i (by omega) 0 (by decide)
    have s1 := HF3.out.node_at i (by omega) 1 (by decide)
    have s2 := HF3.out.node_at i (by omega) 2 (by decide)
    have s3 := HF3.out.node_at i (by omega) 3 (by decide)
    have s4 := HF3.out.node_at i (by omega) 4 (by decide)
    have s5 := HF3.out.node_at i (by omega) 5 (by decide)
    rw [hLi] at s0 s1 s2 s3 s4 s5
    obtain ⟨q, hqe⟩ : ∃ q, (L0[i]).1 = q := ⟨_, rfl⟩
    rw [hqe] at s0 s1 s2 s3 s4 s5 hq
    simp only [pcells, List.getElem?_cons_zero, List.getElem?_cons_succ, Nat.add_zero] at s0 s1 s2 s3 s4 s5
    have en := eqne q p hq
    have g19 : (0 : Int) < (k : Int) := by omega
    have g20 : ((k : Int) - 1) = (i : Int) := by omega
    have g21 : (i : Int) < (k : Int) + 2 := by omega
    have g22 : (i : Int) < 9223372036854775807 := by omega
    clear hLi hqe hq
    go_wp2
    go_quiet (fail)
    go_wp2
    go_returns
    exact ⟨rfl, _, _, HF3.out.kept ((Kept.refl (fun _ => False) W3).drewN.drewN) (fun _ _ x => x), K3.out.drewN.drewN⟩
end Go.Proofs.Ybulkcmvc
