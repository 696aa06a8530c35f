import Derived.Test.YbulkcmvcRefA
import Derived.WalkKit
import Derived.WalkSpells
import Derived.BigRegion
import Derived.BigQuiet
import Derived.Deep.QuietTactic
import Derived.Handy
namespace Go.Proofs.Ybulkcmvc
open Go.RowKit
theorem eqnn (q q' : Option Nat) (h : q ≠ q') (w : World) : (Op.equalIn 10000 38 (agg6 (pw q) (pb q)) (agg6 (pw q') (pb q'))).run Yba.prog w = .ok false w := by
  rw [show (10000 : Nat) = 9996 + 4 from rfl, eq38]
  cases q <;> cases q' <;> simp_all [pw, pb]
  omega
theorem w64n (p : Nat) (h : p < 256) : wrap64 (p : Int) = p := by unfold wrap64; omega
theorem w64p (k : Nat) (h : k < 256) : wrap64 ((k : Int) + 1) = ((k + 1 : Nat) : Int) := by unfold wrap64; omega
theorem w64s (k p : Nat) (hk : p + 1 = k) (h : k < 256) : wrap64 ((k : Int) - 1) = p := by unfold wrap64; omega
set_option maxRecDepth 100000 in
set_option maxHeartbeats 4000000 in
theorem bruns_walk (base T g1 c1 g2 c2 : Nat) (s l : Int) (L : Runs) (hL0 : 0 < L.length) (hL16 : L.length < 16) (hmono : ∀ k, k + 1 < L.length → (L.getD k (none, 0)).2 < (L.getD (k + 1) (none, 0)).2) (hne : ∀ k, k + 1 < L.length → (L.getD k (none, 0)).1 ≠ (L.getD (k + 1) (none, 0)).1)
    (hlast : (L.getD (L.length - 1) (none, 0)).2 = 8) (w : World) (hF : Fing w base T s l (.slice (some ⟨g1, 0, none⟩) L.length c1) (.slice (some ⟨g2, 0, none⟩) L.length c2) L) :
    Calls Yba.prog 15 #[.pointer (some ⟨T, 13, none⟩)] w fun e w' => e = .returned (.bool true) ∧ Kept (fun _ => False) w w' := by
  have hTl := lt_t hF.t
  have hg1 := (own_cap hF.nodes).2.2.2
  have hg2 := (own_cap hF.ends).2.2.2
  have t13 : w.cell? ⟨T, 13, none⟩ = some (.slice (some ⟨g1, 0, none⟩) L.length c1) := by rw [cell_t hF.t]; rfl
  have t14 : w.cell? ⟨T, 14, none⟩ = some (.slice (some ⟨g2, 0, none⟩) L.length c2) := by rw [cell_t hF.t]; rfl
  have HF : Hid (Fing w base T s l (.slice (some ⟨g1, 0, none⟩) L.length c1) (.slice (some ⟨g2, 0, none⟩) L.length c2) L) := hF
  have HM : Hid _ := hmono
  have HN : Hid _ := hne
  have HL : Hid ((L.getD (L.length - 1) (none, 0)).2 = 8) := hlast
  clear hF hmono hne hlast
  obtain ⟨m, hm⟩ : ∃ m, L.length = m := ⟨_, rfl⟩
  rw [hm] at t13 t14 hL0 hL16
  have HMM : Hid (L.length = m) := hm
  clear hm
  have d0 : ((m : Int) == 0) = false := by rw [beq_eq_false_iff_ne]; omega
  have d1 : ((m : Int) == (m : Int)) = true := by simp
  go_enter Yba.func15, Yba.ntmps15
  go_wp2
  go_quiet (fail)
  go_wp2
  go_loopw [3] (fun vk wr => ∃ k : Nat, k ≤ m ∧ vk = .int .i64 k ∧ Kept (fun _ => False) w wr) (fun vk _ => m - (intOf vk).toNat)
  case atStart => exact ⟨0, by omega, rfl, (Kept.refl _ w).drewN⟩
  case round =>
    obtain ⟨k, hk, rfl, hwr⟩ := hrel
    have HW : Hid (Kept (fun _ => False) w wr) := hwr
    have r13 : wr.cell? ⟨T, 13, none⟩ = some (.slice (some ⟨g1, 0, none⟩) m c1) := (hwr.cell (p := ⟨T, 13, none⟩) hTl (fun x => x)).trans t13
    have r14 : wr.cell? ⟨T, 14, none⟩ = some (.slice (some ⟨g2, 0, none⟩) m c2) := (hwr.cell (p := ⟨T, 14, none⟩) hTl (fun x => x)).trans t14
    clear hwr
    by_cases hkm : k < m
    · have q1 : (k : Int) < (m : Int) := by omega
      cases k with
      | zero =>
        go_wp2
        go_quiet (fail)
        go_wp2
        exact ⟨⟨1, by omega, by go_num, HW.out.drewN⟩, by simp [intOf]; omega⟩
      | succ p =>
        obtain ⟨k, hkp⟩ : ∃ k, p + 1 = k := ⟨_, rfl⟩
        rw [hkp] at hkm hk q1 ⊢
        have hkl : k < L.length := by rw [HMM.out]; exact hkm
        have hpl : p < L.length := by omega
        have hgk : L.getD k (none, 0) = L[k] := by rw [List.getD_eq_getElem?_getD, List.getElem?_eq_getElem hkl]; rfl
        have hgp : L.getD p (none, 0) = L[p] := by rw [List.getD_eq_getElem?_getD, List.getElem?_eq_getElem hpl]; rfl
        have hmm := HM.out p (by omega)
        have hnn := HN.out p (by omega)
        rw [hkp, hgk, hgp] at hmm hnn
        have nna := fun j (hj : j < 6) => HF.out.node_at k hkl j hj
        have nnb := fun j (hj : j < 6) => HF.out.node_at p hpl j hj
        have ek := HF.out.end_at k hkl
        have ep := HF.out.end_at p hpl
        obtain ⟨⟨qa, ea⟩, ha⟩ : ∃ x, L[k] = x := ⟨_, rfl⟩
        obtain ⟨⟨qb, eb⟩, hb⟩ : ∃ x, L[p] = x := ⟨_, rfl⟩
        rw [ha] at hmm hnn nna ek
        rw [hb] at hmm hnn nnb ep
        simp only at hmm hnn nna ek nnb ep
        have eqf := eqnn qa qb (fun e => hnn e.symm)
        have ek' : wr.cell? ⟨g2, k, none⟩ = some (.int .u8 (ea : Nat)) := (HW.out.cell (p := ⟨g2, k, none⟩) hg2 (fun x => x)).trans ek
        have ep' : wr.cell? ⟨g2, p, none⟩ = some (.int .u8 (eb : Nat)) := (HW.out.cell (p := ⟨g2, p, none⟩) hg2 (fun x => x)).trans ep
        have a0 : wr.cell? ⟨g1, k * 6, none⟩ = some (.int .u64 0) := (HW.out.cell (p := ⟨g1, k * 6, none⟩) hg1 (fun x => x)).trans (nna 0 (by decide))
        have a1 : wr.cell? ⟨g1, k * 6 + 1, none⟩ = some (.int .u64 0) := (HW.out.cell (p := ⟨g1, k * 6 + 1, none⟩) hg1 (fun x => x)).trans (nna 1 (by decide))
        have a2 : wr.cell? ⟨g1, k * 6 + 2, none⟩ = some (.int .u64 (pw qa)) := (HW.out.cell (p := ⟨g1, k * 6 + 2, none⟩) hg1 (fun x => x)).trans (nna 2 (by decide))
        have a3 : wr.cell? ⟨g1, k * 6 + 3, none⟩ = some (.int .u8 (pb qa)) := (HW.out.cell (p := ⟨g1, k * 6 + 3, none⟩) hg1 (fun x => x)).trans (nna 3 (by decide))
        have a4 : wr.cell? ⟨g1, k * 6 + 4, none⟩ = some (.string ⟨#[]⟩) := (HW.out.cell (p := ⟨g1, k * 6 + 4, none⟩) hg1 (fun x => x)).trans (nna 4 (by decide))
        have a5 : wr.cell? ⟨g1, k * 6 + 5, none⟩ = some (.string ⟨#[]⟩) := (HW.out.cell (p := ⟨g1, k * 6 + 5, none⟩) hg1 (fun x => x)).trans (nna 5 (by decide))
        have b0 : wr.cell? ⟨g1, p * 6, none⟩ = some (.int .u64 0) := (HW.out.cell (p := ⟨g1, p * 6, none⟩) hg1 (fun x => x)).trans (nnb 0 (by decide))
        have b1 : wr.cell? ⟨g1, p * 6 + 1, none⟩ = some (.int .u64 0) := (HW.out.cell (p := ⟨g1, p * 6 + 1, none⟩) hg1 (fun x => x)).trans (nnb 1 (by decide))
        have b2 : wr.cell? ⟨g1, p * 6 + 2, none⟩ = some (.int .u64 (pw qb)) := (HW.out.cell (p := ⟨g1, p * 6 + 2, none⟩) hg1 (fun x => x)).trans (nnb 2 (by decide))
        have b3 : wr.cell? ⟨g1, p * 6 + 3, none⟩ = some (.int .u8 (pb qb)) := (HW.out.cell (p := ⟨g1, p * 6 + 3, none⟩) hg1 (fun x => x)).trans (nnb 3 (by decide))
        have b4 : wr.cell? ⟨g1, p * 6 + 4, none⟩ = some (.string ⟨#[]⟩) := (HW.out.cell (p := ⟨g1, p * 6 + 4, none⟩) hg1 (fun x => x)).trans (nnb 4 (by decide))
        have b5 : wr.cell? ⟨g1, p * 6 + 5, none⟩ = some (.string ⟨#[]⟩) := (HW.out.cell (p := ⟨g1, p * 6 + 5, none⟩) hg1 (fun x => x)).trans (nnb 5 (by decide))
        clear nna nnb hgk hgp ha hb ek ep hnn
        have x1 : (0 : Int) < (k : Int) := by omega
        have x4 : (p : Int) < (m : Int) := by omega
        have x5 : decide ((ea : Int) ≤ (eb : Int)) = false := decide_eq_false (by omega)
        have x7 : decide (0 < k) = true := decide_eq_true (by omega)
        have x8 : decide (ea ≤ eb) = false := decide_eq_false (by omega)
        have x9 : 0 < k := by omega
        have x10 : ¬ (ea ≤ eb) := by omega
        have hp256 : p < 256 := by omega
        have hk256 : k < 256 := by omega
        have x3 := w64n p hp256
        have x6 := w64s k p hkp hk256
        have HKM : Hid (k < m ∧ m < 16) := ⟨hkm, hL16⟩
        clear hmm hp256 hk256 hkp hL16 hL0 hk hkm x9 x10 x1
        go_wp2
        go_quiet (fail)
        go_wp2
        clear x3 x6 x4 x5 x7 x8 eqf
        obtain ⟨hkm, hL16⟩ := HKM.out
        have hk256 : k < 256 := by omega
        rw [w64p k hk256]
        exact ⟨⟨k + 1, hkm, rfl, HW.out.drewN⟩, by simp only [intOf]; omega⟩
    · obtain rfl : k = m := by omega
      obtain ⟨p, hp⟩ : ∃ p, k = p + 1 := ⟨k - 1, by omega⟩
      have hpl : p < L.length := by rw [HMM.out]; omega
      have ep := HF.out.end_at p hpl
      have hl := HL.out
      have hgp : L.getD p (none, 0) = L[p] := by rw [List.getD_eq_getElem?_getD, List.getElem?_eq_getElem hpl]; rfl
      rw [HMM.out, show k - 1 = p by omega, hgp] at hl
      rw [hl] at ep
      have ep' : wr.cell? ⟨g2, p, none⟩ = some (.int .u8 8) := (HW.out.cell (p := ⟨g2, p, none⟩) hg2 (fun x => x)).trans ep
      have x4 : (p : Int) < (k : Int) := by omega
      have x6 := w64s k p hp.symm (by omega)
      clear hl hgp ep hp hk hkm hL16 hL0 hpl
      go_wp2
      go_quiet (fail)
      go_wp2
      go_ret
      exact ⟨rfl, HW.out.drewN⟩
set_option maxRecDepth 100000 in
set_option maxHeartbeats 4000000 in
theorem bat_walk (base T g1 c1 g2 c2 i k : Nat) (q : Option Nat) (s l : Int) (L : Runs) (hL16 : L.length < 16) (hE : ∀ j, j < L.length → (L.getD j (none, 0)).2 ≤ 8) (hi : i < 8) (ha : At L i k q) (w : World) (hF : Fing w base T s l (.slice (some ⟨g1, 0, none⟩) L.length c1) (.slice (some ⟨g2, 0, none⟩) L.length c2) L) :
    Calls Yba.prog 17 #[.pointer (some ⟨T, 13, none⟩), .int .i64 i] w fun e w' => e = .returned (agg6 (pw q) (pb q)) ∧ Below w.heap.size w w' := by
  have hTl := lt_t hF.t
  have hg1 := (own_cap hF.nodes).2.2.2
  have hg2 := (own_cap hF.ends).2.2.2
  have t13 : w.cell? ⟨T, 13, none⟩ = some (.slice (some ⟨g1, 0, none⟩) L.length c1) := by rw [cell_t hF.t]; rfl
  have t14 : w.cell? ⟨T, 14, none⟩ = some (.slice (some ⟨g2, 0, none⟩) L.length c2) := by rw [cell_t hF.t]; rfl
  have HF : Hid (Fing w base T s l (.slice (some ⟨g1, 0, none⟩) L.length c1) (.slice (some ⟨g2, 0, none⟩) L.length c2) L) := hF
  have HA : Hid (At L i k q) := ha
  have HE : Hid (∀ j, j < L.length → (L.getD j (none, 0)).2 ≤ 8) := hE
  clear hF ha hE
  go_enter Yba.func17, Yba.ntmps17
  go_wp2
  go_loop [5] (fun vj => ∃ j : Nat, j ≤ k ∧ vj = .int .i64 j) (fun vj => 16 - (intOf vj).toNat)
  case atStart => exact ⟨0, by omega, rfl⟩
  case round =>
    obtain ⟨j, hj, rfl⟩ := hrel
    have hkl := HA.out.1
    have hjl : j < L.length := by omega
    have q1 : (j : Int) < (L.length : Int) := by omega
    obtain ⟨e, he⟩ : ∃ e, (L[j]).2 = e := ⟨_, rfl⟩
    have hgd : L.getD j (none, 0) = L[j] := by rw [List.getD_eq_getElem?_getD, List.getElem?_eq_getElem hjl]; rfl
    have ce := HF.out.end_at j hjl
    rw [he] at ce
    have he8 := HE.out j hjl
    rw [hgd, he] at he8
    have e2 := w64n e (by omega)
    by_cases hjk : j < k
    · have h1 := HA.out.2.1 j hjk
      rw [hgd, he] at h1
      have q2 : ¬ ((i : Int) < (e : Int)) := Int.not_lt.2 (Int.ofNat_le.2 h1)
      have q3 : (e : Int) ≤ (i : Int) := Int.ofNat_le.2 h1
      have q4 : decide ((i : Int) < (e : Int)) = false := decide_eq_false q2
      clear h1 he8 hgd he
      go_wp2_with fail
      clear e2 q2 q3 q4
      exact ⟨⟨j + 1, hjk, by go_num⟩, by simp [intOf]; omega⟩
    · obtain rfl : j = k := by omega
      have h1 := HA.out.2.2.1 j (Nat.le_refl _) hjl
      have h2 := HA.out.2.2.2
      rw [hgd] at h1 h2
      rw [he] at h1
      have q2 : (i : Int) < (e : Int) := by omega
      have nn := fun z (hz : z < 6) => HF.out.node_at j hjl z hz
      rw [h2] at nn
      have n0 : w.cell? ⟨g1, j * 6, none⟩ = some (.int .u64 0) := nn 0 (by decide)
      have n1 : w.cell? ⟨g1, j * 6 + 1, none⟩ = some (.int .u64 0) := nn 1 (by decide)
      have n2 : w.cell? ⟨g1, j * 6 + 2, none⟩ = some (.int .u64 (pw q)) := nn 2 (by decide)
      have n3 : w.cell? ⟨g1, j * 6 + 3, none⟩ = some (.int .u8 (pb q)) := nn 3 (by decide)
      have n4 : w.cell? ⟨g1, j * 6 + 4, none⟩ = some (.string ⟨#[]⟩) := nn 4 (by decide)
      have n5 : w.cell? ⟨g1, j * 6 + 5, none⟩ = some (.string ⟨#[]⟩) := nn 5 (by decide)
      clear nn h1 h2
      go_wp2
      refine bodyPost_ret (v := agg6 (pw q) (pb q)) (by simp [results, Yba.results17, go_sem]) rfl ?_
      exact ⟨rfl, by go_grown⟩
end Go.Proofs.Ybulkcmvc
