import Derived.Test.YbulkcmvcFind
import Derived.WalkKit
import Derived.WalkSpells
import Derived.BigRegion
import Derived.BigQuiet
import Derived.Deep.QuietTactic
import Derived.Deep.RegionHeld3
import Derived.Deep.RegionWith
import Derived.Deep.CutRange
import Derived.Handy
namespace Go.Proofs.Ybulkcmvc
open Go.RowKit

set_option maxRecDepth 100000 in
set_option maxHeartbeats 8000000 in
theorem refresh_down (base T r s D n c0 : Nat) (a : Option Addr) (h : Has) (rng : Value) (hs : s < 256) (hh : h s = true) (hD : D ≤ 255) (hbr : base ≤ r) (w : World) (hS : SV w base s (.slice a n c0) (ds h s D)) (hT : TT w base T s 0 h false 0) (hR : Ring w r h true 0 0) :
    Calls Yba.prog 13 #[.pointer (some ⟨T, 0, none⟩), bgV, viewV s (.slice a n c0), .iface 47 (.pointer (some ⟨r, 0, none⟩)), rng] w fun e w' => e = .returned (.tuple #[]) ∧ (∃ c : Nat, Stop h s D c ∧ TT w' base T s 0 h false c ∧ Ring w' r h true ((8 - c : Nat) : Int) 0) ∧ Kept (base ≤ ·) w w' := by
  have hbw := hT.size
  have hbT := hT.base
  obtain ⟨nv0, ev0, ho⟩ := hT.obj
  have hTw := lt_t ho
  clear ho
  have HS : Hid (SV w base s (.slice a n c0) (ds h s D)) := hS
  have HT : Hid (TT w base T s 0 h false 0) := hT
  have HR : Hid (Ring w r h true 0 0) := hR
  have HH : Hid (h s = true) := hh
  clear hS hT hR hh
  go_enter Yba.func13, Yba.ntmps13
  go_wp2_with fail
  refine Calls.mono (TT.lock (HT.out.alloc _)) ?_
  rintro e w1 ⟨rfl, hT1, hk1, hkt1⟩
  generalize hW : w.alloc _ = W at hk1 hkt1
  have kW : Kept (fun _ => False) w W := by rw [← hW]; exact (Kept.refl _ w).alloc _
  have hV : W.heap[w.heap.size]? = some (.cells #[.int .u64 0, .int .u64 0, .int .u64 s, .int .u8 8, .string ⟨#[]⟩, .string ⟨#[]⟩, .slice none 0 0, .slice a n c0, .slice none 0 0, .slice none 0 0, .bool false, .bool false] 44 (0, 0)) := by rw [← hW]; exact Array.getElem?_push_size
  have hV1 := hk1.2.2 _ _ _ hV (by decide) (by decide) (by decide)
  have v0 : w1.cell? ⟨w.heap.size, 0, none⟩ = some (.int .u64 0) := by simp [World.cell?, hV1]
  have v1 : w1.cell? ⟨w.heap.size, 1, none⟩ = some (.int .u64 0) := by simp [World.cell?, hV1]
  have v2 : w1.cell? ⟨w.heap.size, 2, none⟩ = some (.int .u64 s) := by simp [World.cell?, hV1]
  have v3 : w1.cell? ⟨w.heap.size, 3, none⟩ = some (.int .u8 8) := by simp [World.cell?, hV1]
  have v4 : w1.cell? ⟨w.heap.size, 4, none⟩ = some (.string ⟨#[]⟩) := by simp [World.cell?, hV1]
  have v5 : w1.cell? ⟨w.heap.size, 5, none⟩ = some (.string ⟨#[]⟩) := by simp [World.cell?, hV1]
  have v6 : w1.cell? ⟨w.heap.size, 6, none⟩ = some (.slice none 0 0) := by simp [World.cell?, hV1]
  have v7 : w1.cell? ⟨w.heap.size, 7, none⟩ = some (.slice a n c0) := by simp [World.cell?, hV1]
  have v8 : w1.cell? ⟨w.heap.size, 8, none⟩ = some (.slice none 0 0) := by simp [World.cell?, hV1]
  have v9 : w1.cell? ⟨w.heap.size, 9, none⟩ = some (.slice none 0 0) := by simp [World.cell?, hV1]
  have v10 : w1.cell? ⟨w.heap.size, 10, none⟩ = some (.bool false) := by simp [World.cell?, hV1]
  have v11 : w1.cell? ⟨w.heap.size, 11, none⟩ = some (.bool false) := by simp [World.cell?, hV1]
  have HT1 : Hid (TT w1 base T s 1 h false 0) := hT1
  have HK1 : Hid (Keep base w w1) := (Keep.of_none kW).trans hk1
  have HS1 : Hid (SV w1 base s (.slice a n c0) (ds h s D)) := HS.out.keep hbw HK1.out.1
  clear hW hT1 hk1 hkt1 kW hV hV1
  go_wp2_with fail
  refine Calls.mono (fsucc_walk base T s D n c0 a 1 h false hs HH.out hD w1 HS1.out HT1.out) ?_
  rintro e w2 ⟨⟨c, rfl, hstop, hT2⟩, hk2⟩
  have HT2 : Hid (TT w2 base T s 1 h false c) := hT2
  have HK2 : Hid (Keep base w w2) := HK1.out.trans hk2
  have HST : Hid (Stop h s D c) := hstop
  have hc8 : c ≤ 8 := hstop.1
  clear hT2 hk2 hstop v0 v1 v2 v3 v4 v5 v6 v7 v8 v9 v10 v11
  go_wp2_with fail
  refine Calls.mono (TT.unlock HT2.out) ?_
  rintro e w3 ⟨rfl, hT3, hk3, hkt3⟩
  have HT3 : Hid (TT w3 base T s 0 h false c) := hT3
  have HK3 : Hid (Keep base w w3) := HK2.out.trans hk3
  have HR3 : Hid (Ring w3 r h true 0 0) := HK3.out.2.1 _ _ _ _ _ HR.out
  have hs3 : w.heap.size ≤ w3.heap.size := HK3.out.size
  clear hT3 hk3 hkt3
  go_wp2
  go_loopw [10] (fun vi wr => ∃ i : Nat, i ≤ 8 ∧ c ≤ i ∧ vi = .int .i64 i ∧ TT wr base T s 0 h false c ∧ Ring wr r h true ((i - c : Nat) : Int) 0 ∧ Kept (base ≤ ·) w wr) (fun vi _ => 8 - (intOf vi).toNat)
  case atStart => exact ⟨c, hc8, Nat.le_refl _, rfl, HT3.out, by rw [Nat.sub_self]; exact HR3.out, HK3.out.1⟩
  case round =>
    obtain ⟨i, hi8, hci, rfl, htt, hrr, hkk⟩ := hrel
    obtain ⟨nv, ev, hobj⟩ := htt.obj
    have t0 : wr.cell? ⟨T, 0, none⟩ = some (.int .u64 0) := by rw [cell_t hobj]; rfl
    have t1 : wr.cell? ⟨T, 1, none⟩ = some (.int .u64 0) := by rw [cell_t hobj]; rfl
    have t2 : wr.cell? ⟨T, 2, none⟩ = some (.int .u64 s) := by rw [cell_t hobj]; rfl
    have t3 : wr.cell? ⟨T, 3, none⟩ = some (.int .u8 8) := by rw [cell_t hobj]; rfl
    have hTl := lt_t hobj
    clear hobj
    have HTT : Hid (TT wr base T s 0 h false c) := htt
    have HRR : Hid (Ring wr r h true ((i - c : Nat) : Int) 0) := hrr
    have HKK : Hid (Kept (base ≤ ·) w wr) := hkk
    have hwr := hkk.size
    clear htt hrr hkk
    by_cases hi : i < 8
    · have q1 : (i : Int) < 8 := by omega
      have h27 := fun X (hX : TT X base T s 0 h false c) fd pd hX2 => find_down base T r s i c h fd pd bgV hs HH.out hi hci X hX hX2
      have H27 : Hid _ := h27
      clear h27
      go_wp2_with fail
      refine (bits_walk s _).mono ?_
      rintro e x1 ⟨rfl, hb1⟩
      have HX1 : Hid (TT x1 base T s 0 h false c) := HTT.out.below hb1
      have HY1 : Hid (Ring x1 r h true ((i - c : Nat) : Int) 0) := HRR.out.kept (M := fun _ => False) (Kept.of_below hb1) (fun x => x)
      have HZ1 : Hid (Kept (base ≤ ·) w x1) := HKK.out.and (Kept.of_below hb1)
      clear hb1 t0 t1 t2 t3
      go_wp2_with fail
      refine Calls.mono (H27.out _ HX1.out _ _ HY1.out) ?_
      rintro e x2 ⟨⟨b, rfl⟩, hT2', hR2', hk2'⟩
      have HX2 : Hid (TT x2 base T s 0 h false c) := hT2'
      have hR2'' : Ring x2 r h true ((i + 1 - c : Nat) : Int) 0 := by
        rw [show wrap64 (((i - c : Nat) : Int) + 1) = ((i + 1 - c : Nat) : Int) by unfold wrap64; omega] at hR2'
        exact hR2'
      have HY2 : Hid (Ring x2 r h true ((i + 1 - c : Nat) : Int) 0) := hR2''
      have HZ2 : Hid (Kept (base ≤ ·) w x2) := HZ1.out.and (hk2'.ofTr hbT hbr)
      clear hT2' hR2' hk2' hR2''
      go_wp2_with fail
      refine (err_try _).mono ?_
      rintro e x3 ⟨rfl, hb3⟩
      have k3 : Kept (fun _ => False) x2 x3 := ((Kept.refl _ x2).alloc _).trans (Kept.of_below (M := fun _ => False) hb3) (fun _ _ x => x)
      have HX3 : Hid (TT x3 base T s 0 h false c) := HX2.out.of0 k3
      have HY3 : Hid (Ring x3 r h true ((i + 1 - c : Nat) : Int) 0) := HY2.out.kept k3 (fun x => x)
      have HZ3 : Hid (Kept (base ≤ ·) w x3) := HZ2.out.and k3.wide
      clear hb3 k3
      go_wp2
      exact ⟨⟨i + 1, by omega, by omega, by go_num, HX3.out, HY3.out, HZ3.out⟩, by simp [intOf]; omega⟩
    · obtain rfl : i = 8 := by omega
      go_wp2_with fail
      refine (bits_walk s _).mono ?_
      rintro e x1 ⟨rfl, hb1⟩
      have HX1 : Hid (TT x1 base T s 0 h false c) := HTT.out.below hb1
      have HY1 : Hid (Ring x1 r h true ((8 - c : Nat) : Int) 0) := HRR.out.kept (M := fun _ => False) (Kept.of_below hb1) (fun x => x)
      have HZ1 : Hid (Kept (base ≤ ·) w x1) := HKK.out.and (Kept.of_below hb1)
      clear hb1 t0 t1 t2 t3
      go_wp2_with fail
      refine Calls.mono (TT.lock HX1.out) ?_
      rintro e x2 ⟨rfl, hT2', hk2', _⟩
      have HX2 : Hid (TT x2 base T s 1 h false c) := hT2'
      have HK2' : Hid (Keep base x1 x2) := hk2'
      clear hT2' hk2'
      go_wp2_with fail
      refine Calls.mono (TT.trim HX2.out) ?_
      rintro e x3 ⟨rfl, hT3', hk3'⟩
      have HX3 : Hid (TT x3 base T s 1 h false c) := hT3'
      have HK3' : Hid (Keep base x1 x3) := HK2'.out.trans hk3'
      clear hT3' hk3'
      go_wp2_with fail
      refine Calls.mono (TT.unlock HX3.out) ?_
      rintro e x4 ⟨rfl, hT4', hk4', _⟩
      have HX4 : Hid (TT x4 base T s 0 h false c) := hT4'
      have HK4' : Hid (Keep base x1 x4) := HK3'.out.trans hk4'
      clear hT4' hk4'
      go_wp2
      go_returns
      exact ⟨rfl, ⟨c, HST.out, HX4.out, HK4'.out.2.1 _ _ _ _ _ HY1.out⟩, HZ1.out.and HK4'.out.1⟩
end Go.Proofs.Ybulkcmvc
