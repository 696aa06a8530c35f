import Derived.Test.YbulkcmvcFindA
import Derived.WalkKit
import Derived.WalkSpells
import Derived.BigRegion
import Derived.BigQuiet
import Derived.Deep.QuietTactic
import Derived.Deep.RegionHeld3
import Derived.Deep.RegionWith
import Derived.Deep.CutRange
import Derived.Handy
namespace Go.Proofs.Ybulkcmvc
open Go.RowKit

set_option maxRecDepth 100000 in
set_option maxHeartbeats 8000000 in
theorem find_diff (base T r s i c : Nat) (p : Nat) (h : Has) (full fl : Bool) (fd pd : Int) (ctx : Value) (PQ : Int → Int → Value → Prop) (hs : s < 256) (hi : i < 8) (hp : p < 256) (hps : p ≠ s) (w : World) (hT : TT w base T s 0 h full c) (hat : ∀ L, Tb h s full c L → ∃ k, At L i k (some p)) (hR : Ring w r h fl fd pd) (hRF : RF r h fl ctx ((s + 2 ^ i) % 256) PQ) :
    Calls Yba.prog 27 #[.pointer (some ⟨T, 0, none⟩), ctx, .iface 47 (.pointer (some ⟨r, 0, none⟩)), .int .i64 i] w fun e w' => FD w base T r s c h full fl PQ (some p) fd pd e w' := by
  obtain ⟨t, ht⟩ : ∃ t : Nat, (s + 2 ^ i) % 256 = t := ⟨_, rfl⟩
  have ht2 : t < 256 := by omega
  have h34 := fun X (hX : TT X base T s 0 h full c) => TT.target (i := i) hs hi hX
  rw [ht] at hRF h34
  have hrl := hR.lt
  have hbw := hT.size
  obtain ⟨L, ⟨hbT, hL0, hL16, g1, c1, g2, c2, hF⟩, hTb⟩ := hT
  obtain ⟨k, hAt⟩ := hat L hTb
  have hTl := lt_t hF.t
  have hg1 := (own_cap hF.nodes).2.2.2
  have hg2 := (own_cap hF.ends).2.2.2
  have HF : Hid (Fing w base T s 0 (.slice (some ⟨g1, 0, none⟩) L.length c1) (.slice (some ⟨g2, 0, none⟩) L.length c2) L) := hF
  have HR0 : Hid (Ring w r h fl fd pd) := hR
  have HRF : Hid (RF r h fl ctx t PQ) := hRF
  have HAT : Hid (At L i k (some p)) := hAt
  have HTB : Hid (Tb h s full c L) := hTb
  have H34 : Hid _ := h34
  clear hF hR hRF hat h34 hAt hTb
  go_enter Yba.func27, Yba.ntmps27
  go_wp2_with fail
  refine Calls.mono (H34.out _ (TT.alloc ⟨L, ⟨hbT, hL0, hL16, g1, c1, g2, c2, HF.out⟩, HTB.out⟩ _)) ?_
  rintro e w1 ⟨rfl, hb1⟩
  have hk1 : Kept (fun _ => False) w w1 := ((Kept.refl _ w).alloc _).trans (Kept.of_below (M := fun _ => False) hb1) (fun _ _ x => x)
  have hs1 : Slot w1 w.heap.size 0 0 := (slot_alloc w 0 0 38).kept (M := fun _ => False) (Kept.of_below hb1) (fun x => x)
  have q1 : w.heap.size < w1.heap.size := hs1.p.lt
  have HS1 : Hid (Slot w1 w.heap.size 0 0) := hs1
  have HK1 : Hid (Kept (fun _ => False) w w1) := hk1
  have HF1 : Hid (Fing w1 base T s 0 (.slice (some ⟨g1, 0, none⟩) L.length c1) (.slice (some ⟨g2, 0, none⟩) L.length c2) L) := HF.out.kept hk1 (fun _ _ x => x)
  clear hb1 hs1 hk1
  go_wp2_with fail
  refine Calls.mono (lock_t T base s _ _ L _ (HF1.out.kept ((Kept.refl _ w1).alloc _) (fun _ _ x => x))) ?_
  rintro e w2 ⟨rfl, hF2, hk2⟩
  generalize hX1 : w1.alloc _ = X1 at hk2
  have k1 : Kept (fun _ => False) w1 X1 := by rw [← hX1]; exact (Kept.refl _ w1).alloc _
  have hid1 : IdAt X1 w1.heap.size t := by rw [← hX1]; exact id_alloc w1 t 36
  have hlx : X1.heap.size = w1.heap.size + 1 := by rw [← hX1]; simp
  have hRX := (HR0.out.kept HK1.out (fun x => x)).kept k1 (fun x => x)
  have HRT : Hid (r ≠ T) := fun e => ring_not_in hL0 HF.out HR0.out (.inl e)
  have HS2 : Hid (Slot w2 w.heap.size 0 0) := (HS1.out.kept k1 (fun x => x)).kept hk2 (by omega)
  have HID2 : Hid (IdAt w2 w1.heap.size t) := hid1.kept hk2 (by omega)
  have HK2 : Hid (Kept (Tr T r) w w2) := HK1.out.to0.and (k1.to0.and hk2.toT)
  have HR2 : Hid (Ring w2 r h fl fd pd) := hRX.kept hk2 HRT.out
  have HF2 : Hid (Fing w2 base T s 1 (.slice (some ⟨g1, 0, none⟩) L.length c1) (.slice (some ⟨g2, 0, none⟩) L.length c2) L) := hF2
  have q2 : w1.heap.size < w2.heap.size := by have := hk2.size; omega
  clear hX1 hk2 k1 hid1 hRX hF2
  have hrun := fun X (hX : Kept (fun _ => False) w2 X) => TT.run (w := X) (base := base) (T := T) (s := s) (l := 1) (L := L) (i := i) (k := k) ⟨hbT, hL0, hL16, g1, c1, g2, c2, HF2.out.kept hX (fun _ _ x => x)⟩ hi HAT.out
  have HRUN : Hid _ := hrun
  clear hrun
  have ha1 := HAT.out.1
  have t13 : w2.cell? ⟨T, 13, none⟩ = some (.slice (some ⟨g1, 0, none⟩) L.length c1) := by rw [cell_t HF2.out.t]; rfl
  have hg1' : g1 < w2.heap.size := by have := HK2.out.size; omega
  have hTl2 : T < w2.heap.size := by have := HK2.out.size; omega
  have hq : (L[k]).1 = some p := by rw [← HAT.out.2.2.2, List.getD_eq_getElem?_getD, List.getElem?_eq_getElem ha1]; rfl
  have nn := fun j (hj : j < 6) => HF2.out.node_at k ha1 j hj
  rw [hq] at nn
  have n0 : w2.cell? ⟨g1, k * 6, none⟩ = some (.int .u64 0) := nn 0 (by decide)
  have n1 : w2.cell? ⟨g1, k * 6 + 1, none⟩ = some (.int .u64 0) := nn 1 (by decide)
  have n2 : w2.cell? ⟨g1, k * 6 + 2, none⟩ = some (.int .u64 p) := nn 2 (by decide)
  have n3 : w2.cell? ⟨g1, k * 6 + 3, none⟩ = some (.int .u8 8) := nn 3 (by decide)
  have n4 : w2.cell? ⟨g1, k * 6 + 4, none⟩ = some (.string ⟨#[]⟩) := nn 4 (by decide)
  have n5 : w2.cell? ⟨g1, k * 6 + 5, none⟩ = some (.string ⟨#[]⟩) := nn 5 (by decide)
  clear nn hq
  have qk : (k : Int) < (L.length : Int) := by omega
  go_upto_region 3 with fail
  go_cut [11] from 14 (fun p11 wx => p11 = .pointer (some ⟨w2.heap.size, 0, none⟩) ∧ wx = (w2.alloc (.cells #[.int .u64 0, .int .u64 0, .int .u64 p, .int .u8 8, .string ⟨#[]⟩, .string ⟨#[]⟩] 38)).drew)
  case first =>
    go_region_with (first
      | (go_at_call 36; refine Calls.mono (HRUN.out _ ((Kept.refl _ w2).drew)) ?_; rintro e w5 ⟨rfl, rfl⟩)
      | (go_at_call 36; refine Calls.mono (HRUN.out _ (((Kept.refl _ w2).drew).alloc _)) ?_; rintro e w5 ⟨rfl, rfl⟩))
    all_goals (go_wp2_with fail; go_meet)
    all_goals exact ⟨rfl, rfl⟩
  case rest =>
    obtain ⟨rfl, rfl⟩ := hcut
    have e36 := fun w => eqid p s w
    rw [show ((p : Int) == (s : Int)) = false by simp; omega] at e36
    generalize hX2 : (w2.alloc _).drew = X2
    have k2 : Kept (fun _ => False) w2 X2 := by rw [← hX2]; exact ((Kept.refl _ w2).alloc _).drew
    have hP2 : PeerAt X2 w2.heap.size p 8 := by rw [← hX2]; exact (peer_alloc w2 p 8 38).kept (M := fun _ => False) ((Kept.refl _ _).drew) (fun x => x)
    have HFX2 : Hid (Fing X2 base T s 1 (.slice (some ⟨g1, 0, none⟩) L.length c1) (.slice (some ⟨g2, 0, none⟩) L.length c2) L) := HF2.out.kept k2 (fun _ _ x => x)
    have hlx2 : X2.heap.size = w2.heap.size + 1 := by rw [← hX2]; simp
    clear hX2 n0 n1 n2 n3 n4 n5 t13
    go_wp2_with fail
    refine Calls.mono (unlock_t T base s _ _ L _ HFX2.out) ?_
    rintro e w3 ⟨rfl, hF3, hk3⟩
    have HP3 : Hid (PeerAt w3 w2.heap.size p 8) := hP2.kept hk3 (by omega)
    have HSL3 : Hid (Slot w3 w.heap.size 0 0) := (HS2.out.kept k2 (fun x => x)).kept hk3 (by omega)
    have HID3 : Hid (IdAt w3 w1.heap.size t) := (HID2.out.kept k2 (fun x => x)).kept hk3 (by omega)
    have HK3 : Hid (Kept (Tr T r) w w3) := HK2.out.and (k2.to0.and hk3.toT)
    have HR3 : Hid (Ring w3 r h fl fd pd) := (HR2.out.kept k2 (fun x => x)).kept hk3 HRT.out
    have HF3 : Hid (Fing w3 base T s 0 (.slice (some ⟨g1, 0, none⟩) L.length c1) (.slice (some ⟨g2, 0, none⟩) L.length c2) L) := hF3
    have q3 : w2.heap.size < w3.heap.size := by have := hk3.size; omega
    have hTl3 : T < w3.heap.size := by omega
    clear hk3 hF3 k2 hP2
    have t0 : w3.cell? ⟨T, 0, none⟩ = some (.int .u64 0) := by rw [cell_t HF3.out.t]; rfl
    have t1 : w3.cell? ⟨T, 1, none⟩ = some (.int .u64 0) := by rw [cell_t HF3.out.t]; rfl
    have t2 : w3.cell? ⟨T, 2, none⟩ = some (.int .u64 s) := by rw [cell_t HF3.out.t]; rfl
    have t3 : w3.cell? ⟨T, 3, none⟩ = some (.int .u8 8) := by rw [cell_t HF3.out.t]; rfl
    have MK : Hid (∀ X, Below w3.heap.size w3 X → X.cell? ⟨w2.heap.size, 0, none⟩ = some (.int .u64 0) ∧ X.cell? ⟨w2.heap.size, 1, none⟩ = some (.int .u64 0) ∧ X.cell? ⟨w2.heap.size, 2, none⟩ = some (.int .u64 p) ∧ X.cell? ⟨w2.heap.size, 3, none⟩ = some (.int .u8 8) ∧ X.cell? ⟨w2.heap.size, 4, none⟩ = some (.string ⟨#[]⟩) ∧ X.cell? ⟨w2.heap.size, 5, none⟩ = some (.string ⟨#[]⟩) ∧ X.cell? ⟨T, 0, none⟩ = some (.int .u64 0) ∧ X.cell? ⟨T, 1, none⟩ = some (.int .u64 0) ∧ X.cell? ⟨T, 2, none⟩ = some (.int .u64 s) ∧ X.cell? ⟨T, 3, none⟩ = some (.int .u8 8)) := fun X hX => ⟨(bc hX q3).trans HP3.out.c0, (bc hX q3).trans HP3.out.c1, (bc hX q3).trans HP3.out.c2, (bc hX q3).trans HP3.out.c3, (bc hX q3).trans HP3.out.c4, (bc hX q3).trans HP3.out.c5, (bc hX hTl3).trans t0, (bc hX hTl3).trans t1, (bc hX hTl3).trans t2, (bc hX hTl3).trans t3⟩
    have hisz : ∀ w, Calls Yba.prog 37 #[peerV p] w fun e w' => e = .returned (.bool false) ∧ Below w.heap.size w w' := iszero_peer p
    have HISZ : Hid _ := hisz
    clear hisz t0 t1 t2 t3
    go_wp2
    refine wp_region_held_drew (S := fun X => X.cell? ⟨w2.heap.size, 0, none⟩ = some (.int .u64 0) ∧ X.cell? ⟨w2.heap.size, 1, none⟩ = some (.int .u64 0) ∧ X.cell? ⟨w2.heap.size, 2, none⟩ = some (.int .u64 p) ∧ X.cell? ⟨w2.heap.size, 3, none⟩ = some (.int .u8 8) ∧ X.cell? ⟨w2.heap.size, 4, none⟩ = some (.string ⟨#[]⟩) ∧ X.cell? ⟨w2.heap.size, 5, none⟩ = some (.string ⟨#[]⟩) ∧ X.cell? ⟨T, 0, none⟩ = some (.int .u64 0) ∧ X.cell? ⟨T, 1, none⟩ = some (.int .u64 0) ∧ X.cell? ⟨T, 2, none⟩ = some (.int .u64 s) ∧ X.cell? ⟨T, 3, none⟩ = some (.int .u8 8)) (by kernel_rfl) (MK.out _ (Below.refl _ _).drew) (fun hHeld => ?_)
    refine wpAnyH_take (i := 0) (v := ?v0) rfl (by kernel_rfl) (by kernel_rfl) (by kernel_rfl) (fun _ _ _ h => h) (Or.inl ⟨by rfl, ?y0⟩) hHeld ?z0
    case y0 => (intro w hSw; (try dsimp only at hSw); go_simp; try rfl)
    simp only [List.getElem_toArray, List.getElem_cons_zero, Act.put, List.setIfInBounds_toArray, List.set_cons_zero, List.set_cons_succ]
    refine wpAnyH_ready (rs := [1]) (by kernel_rfl) (by simp) ?_
    refine AllReadyH.cons rfl (fun K hK => ?_) AllReadyH.nil
    go_simp
    refine Calls.mono (HISZ.out _) ?_
    rintro e w4 ⟨rfl, hb4⟩
    have k4 : Below w3.heap.size w3 w4 := (Below.refl _ w3).drew.trans hb4
    refine hK.out _ _ (MK.out _ k4) (fun hHeld4 => ?_)
    clear hK hHeld
    try simp only [Act.put, List.setIfInBounds_toArray, List.set_cons_zero, List.set_cons_succ]
    refine wpAnyH_take (i := 2) (v := ?v2) rfl (by kernel_rfl) (by kernel_rfl) (by kernel_rfl) (fun _ _ _ h => h) (Or.inl ⟨by rfl, ?y2⟩) hHeld4 ?z2
    case y2 => (intro w hSw; (try dsimp only at hSw); go_simp; try rfl)
    simp only [List.getElem_toArray, List.getElem_cons_zero, List.getElem_cons_succ, Act.put, List.setIfInBounds_toArray, List.set_cons_zero, List.set_cons_succ]
    refine wpAnyH_take (i := 3) (v := ?v3) rfl (by kernel_rfl) (by kernel_rfl) (by kernel_rfl) (fun _ _ _ h => h) (Or.inl ⟨by rfl, ?y3⟩) hHeld4 ?z3
    case y3 => (intro w hSw; (try dsimp only at hSw); go_simp; try rfl)
    simp only [List.getElem_toArray, List.getElem_cons_zero, List.getElem_cons_succ, Act.put, List.setIfInBounds_toArray, List.set_cons_zero, List.set_cons_succ]
    refine wpAnyH_take (i := 4) (v := ?v4) rfl (by kernel_rfl) (by kernel_rfl) (by kernel_rfl) (fun _ _ _ h => h) (Or.inl ⟨by rfl, ?y4⟩) hHeld4 ?z4
    case y4 => (intro w hSw; (try dsimp only at hSw); go_simp; try rfl)
    simp only [List.getElem_toArray, List.getElem_cons_zero, List.getElem_cons_succ, Act.put, List.setIfInBounds_toArray, List.set_cons_zero, List.set_cons_succ]
    refine wpAnyH_take (i := 5) (v := ?v5) rfl (by kernel_rfl) (by kernel_rfl) (by kernel_rfl) (fun _ _ _ h => h) (Or.inl ⟨by rfl, ?y5⟩) hHeld4 ?z5
    case y5 => (intro w hSw; (try dsimp only at hSw); go_simp; try rfl)
    simp only [List.getElem_toArray, List.getElem_cons_zero, List.getElem_cons_succ, Act.put, List.setIfInBounds_toArray, List.set_cons_zero, List.set_cons_succ]
    refine wpAnyH_take (i := 6) (v := ?v6) rfl (by kernel_rfl) (by kernel_rfl) (by kernel_rfl) (fun _ _ _ h => h) (Or.inl ⟨by rfl, ?y6⟩) hHeld4 ?z6
    case y6 => (intro w hSw; (try dsimp only at hSw); go_simp; try rfl)
    simp only [List.getElem_toArray, List.getElem_cons_zero, List.getElem_cons_succ, Act.put, List.setIfInBounds_toArray, List.set_cons_zero, List.set_cons_succ]
    refine wpAnyH_take (i := 7) (v := ?v7) rfl (by kernel_rfl) (by kernel_rfl) (by kernel_rfl) (fun _ _ _ h => h) (Or.inl ⟨by rfl, ?y7⟩) hHeld4 ?z7
    case y7 => (intro w hSw; (try dsimp only at hSw); go_simp; try rfl)
    simp only [List.getElem_toArray, List.getElem_cons_zero, List.getElem_cons_succ, Act.put, List.setIfInBounds_toArray, List.set_cons_zero, List.set_cons_succ]
    refine wpAnyH_take (i := 8) (v := ?v8) rfl (by kernel_rfl) (by kernel_rfl) (by kernel_rfl) (fun _ _ _ h => h) (Or.inl ⟨by rfl, ?y8⟩) hHeld4 ?z8
    case y8 => (intro w hSw; (try dsimp only at hSw); go_simp; try rfl)
    simp only [List.getElem_toArray, List.getElem_cons_zero, List.getElem_cons_succ, Act.put, List.setIfInBounds_toArray, List.set_cons_zero, List.set_cons_succ]
    refine wpAnyH_take (i := 9) (v := ?v9) rfl (by kernel_rfl) (by kernel_rfl) (by kernel_rfl) (fun _ _ _ h => h) (Or.inl ⟨by rfl, ?y9⟩) hHeld4 ?z9
    case y9 => (intro w hSw; (try dsimp only at hSw); go_simp; try rfl)
    simp only [List.getElem_toArray, List.getElem_cons_zero, List.getElem_cons_succ, Act.put, List.setIfInBounds_toArray, List.set_cons_zero, List.set_cons_succ]
    refine wpAnyH_take (i := 10) (v := ?v10) rfl (by kernel_rfl) (by kernel_rfl) (by kernel_rfl) (fun _ _ _ h => h) (Or.inl ⟨by rfl, ?y10⟩) hHeld4 ?z10
    case y10 => (intro w hSw; (try dsimp only at hSw); go_simp; try rfl)
    simp only [List.getElem_toArray, List.getElem_cons_zero, List.getElem_cons_succ, Act.put, List.setIfInBounds_toArray, List.set_cons_zero, List.set_cons_succ]
    refine wpAnyH_take (i := 11) (v := ?v11) rfl (by kernel_rfl) (by kernel_rfl) (by kernel_rfl) (fun _ _ _ h => h) (Or.inl ⟨by rfl, ?y11⟩) hHeld4 ?z11
    case y11 => (intro w hSw; (try dsimp only at hSw); go_simp; try rfl)
    simp only [List.getElem_toArray, List.getElem_cons_zero, List.getElem_cons_succ, Act.put, List.setIfInBounds_toArray, List.set_cons_zero, List.set_cons_succ]
    refine wpAnyH_take (i := 12) (v := ?v12) rfl (by kernel_rfl) (by kernel_rfl) (by kernel_rfl) (fun _ _ _ h => h) (Or.inl ⟨by rfl, ?y12⟩) hHeld4 ?z12
    case y12 => (intro w hSw; (try dsimp only at hSw); go_simp; try rfl)
    simp only [List.getElem_toArray, List.getElem_cons_zero, List.getElem_cons_succ, Act.put, List.setIfInBounds_toArray, List.set_cons_zero, List.set_cons_succ]
    refine wpAnyH_done (by kernel_rfl) ?_ _
    clear hHeld4 hb4
    have hk4 : Kept (fun _ => False) w3 w4 := Kept.of_below k4
    clear k4
    have HSL : Hid (Slot w4 w.heap.size 0 0) := HSL3.out.kept hk4 (fun x => x)
    have HID : Hid (IdAt w4 w1.heap.size t) := HID3.out.kept hk4 (fun x => x)
    have HR : Hid (Ring w4 r h fl fd pd) := HR3.out.kept hk4 (fun x => x)
    have HFX : Hid (Fing w4 base T s 0 (.slice (some ⟨g1, 0, none⟩) L.length c1) (.slice (some ⟨g2, 0, none⟩) L.length c2) L) := HF3.out.kept hk4 (fun _ _ x => x)
    have HKX : Hid (Kept (Tr T r) w w4) := HK3.out.and hk4.to0
    have HPL : Hid (PeerAt w4 w2.heap.size p 8) := HP3.out.kept hk4 (fun x => x)
    clear hk4
    have p0 : w4.cell? ⟨w2.heap.size, 0, none⟩ = some (.int .u64 0) := HPL.out.c0
    have p1 : w4.cell? ⟨w2.heap.size, 1, none⟩ = some (.int .u64 0) := HPL.out.c1
    have p2 : w4.cell? ⟨w2.heap.size, 2, none⟩ = some (.int .u64 p) := HPL.out.c2
    have p3 : w4.cell? ⟨w2.heap.size, 3, none⟩ = some (.int .u8 8) := HPL.out.c3
    have p4 : w4.cell? ⟨w2.heap.size, 4, none⟩ = some (.string ⟨#[]⟩) := HPL.out.c4
    have p5 : w4.cell? ⟨w2.heap.size, 5, none⟩ = some (.string ⟨#[]⟩) := HPL.out.c5
    go_wp2_with fail
    refine Calls.mono (rpred_walk r h fl fd pd ctx p hp _ HR.out) ?_
    rintro e w5 ⟨⟨q', hq', rfl⟩, hk5, pd', hr5⟩
    obtain ⟨x', y', rfl⟩ := hq'.agg
    have HSL5 : Hid (Slot w5 w.heap.size 0 0) := HSL.out.kept hk5 (by omega)
    have HID5 : Hid (IdAt w5 w1.heap.size t) := HID.out.kept hk5 (by omega)
    have HPL5 : Hid (PeerAt w5 w2.heap.size p 8) := HPL.out.kept hk5 (by omega)
    have HF5 : Hid (Fing w5 base T s 0 (.slice (some ⟨g1, 0, none⟩) L.length c1) (.slice (some ⟨g2, 0, none⟩) L.length c2) L) := HFX.out.kept hk5 (fun g hg e => ring_not_in hL0 HFX.out HR.out (e ▸ hg))
    have HK5 : Hid (Kept (Tr T r) w w5) := HKX.out.and hk5.toR
    have HR5 : Hid (Ring w5 r h fl fd pd') := hr5
    have HQ : Hid (PoZ (agg6 x' y')) := hq'
    have ql5 : w2.heap.size < w5.heap.size := HPL5.out.lt
    have qi5 : w1.heap.size < w5.heap.size := HID5.out.lt
    clear hk5 hr5 hq' p0 p1 p2 p3 p4 p5
    have p0 : w5.cell? ⟨w2.heap.size, 0, none⟩ = some (.int .u64 0) := HPL5.out.c0
    have p1 : w5.cell? ⟨w2.heap.size, 1, none⟩ = some (.int .u64 0) := HPL5.out.c1
    have p2 : w5.cell? ⟨w2.heap.size, 2, none⟩ = some (.int .u64 p) := HPL5.out.c2
    have p3 : w5.cell? ⟨w2.heap.size, 3, none⟩ = some (.int .u8 8) := HPL5.out.c3
    have p4 : w5.cell? ⟨w2.heap.size, 4, none⟩ = some (.string ⟨#[]⟩) := HPL5.out.c4
    have p5 : w5.cell? ⟨w2.heap.size, 5, none⟩ = some (.string ⟨#[]⟩) := HPL5.out.c5
    have i0 : w5.cell? ⟨w1.heap.size, 0, none⟩ = some (.int .u64 0) := HID5.out.c0
    have i1 : w5.cell? ⟨w1.heap.size, 1, none⟩ = some (.int .u64 0) := HID5.out.c1
    have i2 : w5.cell? ⟨w1.heap.size, 2, none⟩ = some (.int .u64 t) := HID5.out.c2
    have i3 : w5.cell? ⟨w1.heap.size, 3, none⟩ = some (.int .u8 8) := HID5.out.c3
    go_wp2_with fail
    refine Calls.mono (shows_any p t _ (by omega) (by omega) HQ.out _) ?_
    rintro e w6 ⟨b, rfl, hb6⟩
    have hk6 : Kept (fun _ => False) w5 w6 := ((Kept.refl _ w5).alloc _).trans (Kept.of_below (M := fun _ => False) hb6) (fun _ _ x => x)
    clear hb6 p0 p1 p2 p3 p4 p5 i0 i1 i2 i3
    clear HSL HID HR HFX HKX HPL
    have HSL : Hid (Slot w6 w.heap.size 0 0) := HSL5.out.kept hk6 (fun x => x)
    have HID : Hid (IdAt w6 w1.heap.size t) := HID5.out.kept hk6 (fun x => x)
    have HR : Hid (Ring w6 r h fl fd pd') := HR5.out.kept hk6 (fun x => x)
    have HFX : Hid (Fing w6 base T s 0 (.slice (some ⟨g1, 0, none⟩) L.length c1) (.slice (some ⟨g2, 0, none⟩) L.length c2) L) := HF5.out.kept hk6 (fun _ _ x => x)
    have HKX : Hid (Kept (Tr T r) w w6) := HK5.out.and hk6.to0
    have HPL : Hid (PeerAt w6 w2.heap.size p 8) := HPL5.out.kept hk6 (fun x => x)
    clear hk6
    cases b
    · have i0 : w6.cell? ⟨w1.heap.size, 0, none⟩ = some (.int .u64 0) := HID.out.c0
      have i1 : w6.cell? ⟨w1.heap.size, 1, none⟩ = some (.int .u64 0) := HID.out.c1
      have i2 : w6.cell? ⟨w1.heap.size, 2, none⟩ = some (.int .u64 t) := HID.out.c2
      have i3 : w6.cell? ⟨w1.heap.size, 3, none⟩ = some (.int .u8 8) := HID.out.c3
      go_wp2_with fail
      refine Calls.mono (HRF.out _ _ _ HR.out) ?_
      rintro e w9 ⟨⟨x, y, er, hpq, rfl⟩, hk9, hr9⟩
      have hs9 : Slot w9 w.heap.size 0 0 := HSL.out.kept hk9 (by omega)
      have s0 : w9.cell? ⟨w.heap.size, 0, none⟩ = some (.int .u64 0) := hs9.p.c0
      have s1 : w9.cell? ⟨w.heap.size, 1, none⟩ = some (.int .u64 0) := hs9.p.c1
      have s2 : w9.cell? ⟨w.heap.size, 2, none⟩ = some (.int .u64 0) := hs9.p.c2
      have s3 : w9.cell? ⟨w.heap.size, 3, none⟩ = some (.int .u8 0) := hs9.p.c3
      have s4 : w9.cell? ⟨w.heap.size, 4, none⟩ = some (.string ⟨#[]⟩) := hs9.p.c4
      have s5 : w9.cell? ⟨w.heap.size, 5, none⟩ = some (.string ⟨#[]⟩) := hs9.p.c5
      have sf := hs9.f
      have sl := hs9.p.lt
      have HR9 : Hid (Ring w9 r h fl _ _) := hr9
      have HF9 : Hid (Fing w9 base T s 0 (.slice (some ⟨g1, 0, none⟩) L.length c1) (.slice (some ⟨g2, 0, none⟩) L.length c2) L) := HFX.out.kept hk9 (fun g hg e => ring_not_in hL0 HFX.out HR.out (e ▸ hg))
      have HK9 : Hid (Kept (Tr T r) w w9) := HKX.out.and hk9.toR
      have HPQ : Hid (PQ x y er) := hpq
      clear hs9 hr9 hk9 hpq
      go_wp2
      refine bodyPost_ret (v := .tuple #[agg6 x y, er]) (by simp [results, Yba.results27, go_sem, s0, s1, s2, s3, s4, s5]) rfl ?_
      have KS : Kept (· = w.heap.size) w9 (setPeer w9 w.heap.size x y) := (((((((Kept.refl (· = w.heap.size) w9).setCell (p := ⟨w.heap.size, 0, none⟩) (fun _ => rfl) _).setCell (p := ⟨w.heap.size, 1, none⟩) (fun _ => rfl) _).setCell (p := ⟨w.heap.size, 2, none⟩) (fun _ => rfl) _).setCell (p := ⟨w.heap.size, 3, none⟩) (fun _ => rfl) _).setCell (p := ⟨w.heap.size, 4, none⟩) (fun _ => rfl) _).setCell (p := ⟨w.heap.size, 5, none⟩) (fun _ => rfl) _)
      exact FD.of (.inl HPQ.out) hbT hL0 hL16 HF9.out HTB.out HR9.out HK9.out KS (Nat.le_refl _) (fun h => by cases h) hTl hrl hg1 hg2
    · have hs9 := HSL.out
      have p0 : w6.cell? ⟨w2.heap.size, 0, none⟩ = some (.int .u64 0) := HPL.out.c0
      have p1 : w6.cell? ⟨w2.heap.size, 1, none⟩ = some (.int .u64 0) := HPL.out.c1
      have p2 : w6.cell? ⟨w2.heap.size, 2, none⟩ = some (.int .u64 p) := HPL.out.c2
      have p3 : w6.cell? ⟨w2.heap.size, 3, none⟩ = some (.int .u8 8) := HPL.out.c3
      have p4 : w6.cell? ⟨w2.heap.size, 4, none⟩ = some (.string ⟨#[]⟩) := HPL.out.c4
      have p5 : w6.cell? ⟨w2.heap.size, 5, none⟩ = some (.string ⟨#[]⟩) := HPL.out.c5
      have s0 : w6.cell? ⟨w.heap.size, 0, none⟩ = some (.int .u64 0) := hs9.p.c0
      have s1 : w6.cell? ⟨w.heap.size, 1, none⟩ = some (.int .u64 0) := hs9.p.c1
      have s2 : w6.cell? ⟨w.heap.size, 2, none⟩ = some (.int .u64 0) := hs9.p.c2
      have s3 : w6.cell? ⟨w.heap.size, 3, none⟩ = some (.int .u8 0) := hs9.p.c3
      have s4 : w6.cell? ⟨w.heap.size, 4, none⟩ = some (.string ⟨#[]⟩) := hs9.p.c4
      have s5 : w6.cell? ⟨w.heap.size, 5, none⟩ = some (.string ⟨#[]⟩) := hs9.p.c5
      have sf := hs9.f
      have sl := hs9.p.lt
      clear hs9
      go_wp2
      refine bodyPost_ret (v := .tuple #[agg6 p 8, .nilIface]) (by simp [results, Yba.results27, go_sem, s0, s1, s2, s3, s4, s5]) rfl ?_
      have KS : Kept (· = w.heap.size) w6 (setPeer w6 w.heap.size p 8) := (((((((Kept.refl (· = w.heap.size) w6).setCell (p := ⟨w.heap.size, 0, none⟩) (fun _ => rfl) _).setCell (p := ⟨w.heap.size, 1, none⟩) (fun _ => rfl) _).setCell (p := ⟨w.heap.size, 2, none⟩) (fun _ => rfl) _).setCell (p := ⟨w.heap.size, 3, none⟩) (fun _ => rfl) _).setCell (p := ⟨w.heap.size, 4, none⟩) (fun _ => rfl) _).setCell (p := ⟨w.heap.size, 5, none⟩) (fun _ => rfl) _)
      exact FD.of (.inr ⟨p, rfl, rfl, rfl, rfl⟩) hbT hL0 hL16 HFX.out HTB.out HR.out HKX.out KS (Nat.le_refl _) (fun h => by cases h) hTl hrl hg1 hg2

end Go.Proofs.Ybulkcmvc
