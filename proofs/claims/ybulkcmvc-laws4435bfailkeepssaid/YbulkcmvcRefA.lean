import Derived.Test.YbulkcmvcFind
import Derived.WalkKit
import Derived.WalkSpells
import Derived.BigRegion
import Derived.BigQuiet
import Derived.Deep.QuietTactic
import Derived.Deep.RegionHeld3
import Derived.Deep.RegionWith
import Derived.Deep.CutRange
import Derived.Handy
namespace Go.Proofs.Ybulkcmvc
open Go.RowKit

set_option maxRecDepth 100000 in
set_option maxHeartbeats 8000000 in
theorem refresh_ok (base T r s D n c0 : Nat) (a : Option Addr) (h : Has) (full : Bool) (rng : Value) (hs : s < 256) (hh : h s = true) (hD : D ≤ 255) (hbr : base ≤ r) (w : World) (hS : SV w base s (.slice a n c0) (ds h s D)) (hT : TT w base T s 0 h full 0) (hR : RingEx w r h false) :
    Calls Yba.prog 13 #[.pointer (some ⟨T, 0, none⟩), bgV, viewV s (.slice a n c0), .iface 47 (.pointer (some ⟨r, 0, none⟩)), rng] w fun e w' => e = .returned (.tuple #[]) ∧ TT w' base T s 0 h full 8 ∧ RingEx w' r h false ∧ Kept (base ≤ ·) w w' := by
  have hbw := hT.size
  have hbT := hT.base
  obtain ⟨nv0, ev0, ho⟩ := hT.obj
  have hTw := lt_t ho
  clear ho
  have HS : Hid (SV w base s (.slice a n c0) (ds h s D)) := hS
  have HT : Hid (TT w base T s 0 h full 0) := hT
  have HR : Hid (RingEx w r h false) := hR
  have HH : Hid (h s = true) := hh
  clear hS hT hR hh
  go_enter Yba.func13, Yba.ntmps13
  go_wp2_with fail
  refine Calls.mono (TT.lock (HT.out.alloc _)) ?_
  rintro e w1 ⟨rfl, hT1, hk1, hkt1⟩
  generalize hW : w.alloc _ = W at hk1 hkt1
  have kW : Kept (fun _ => False) w W := by rw [← hW]; exact (Kept.refl _ w).alloc _
  have hV : W.heap[w.heap.size]? = some (.cells #[.int .u64 0, .int .u64 0, .int .u64 s, .int .u8 8, .string ⟨#[]⟩, .string ⟨#[]⟩, .slice none 0 0, .slice a n c0, .slice none 0 0, .slice none 0 0, .bool false, .bool false] 44 (0, 0)) := by rw [← hW]; exact Array.getElem?_push_size
  have hV1 := hk1.2.2 _ _ _ hV (by decide) (by decide) (by decide)
  have v0 : w1.cell? ⟨w.heap.size, 0, none⟩ = some (.int .u64 0) := by simp [World.cell?, hV1]
  have v1 : w1.cell? ⟨w.heap.size, 1, none⟩ = some (.int .u64 0) := by simp [World.cell?, hV1]
  have v2 : w1.cell? ⟨w.heap.size, 2, none⟩ = some (.int .u64 s) := by simp [World.cell?, hV1]
  have v3 : w1.cell? ⟨w.heap.size, 3, none⟩ = some (.int .u8 8) := by simp [World.cell?, hV1]
  have v4 : w1.cell? ⟨w.heap.size, 4, none⟩ = some (.string ⟨#[]⟩) := by simp [World.cell?, hV1]
  have v5 : w1.cell? ⟨w.heap.size, 5, none⟩ = some (.string ⟨#[]⟩) := by simp [World.cell?, hV1]
  have v6 : w1.cell? ⟨w.heap.size, 6, none⟩ = some (.slice none 0 0) := by simp [World.cell?, hV1]
  have v7 : w1.cell? ⟨w.heap.size, 7, none⟩ = some (.slice a n c0) := by simp [World.cell?, hV1]
  have v8 : w1.cell? ⟨w.heap.size, 8, none⟩ = some (.slice none 0 0) := by simp [World.cell?, hV1]
  have v9 : w1.cell? ⟨w.heap.size, 9, none⟩ = some (.slice none 0 0) := by simp [World.cell?, hV1]
  have v10 : w1.cell? ⟨w.heap.size, 10, none⟩ = some (.bool false) := by simp [World.cell?, hV1]
  have v11 : w1.cell? ⟨w.heap.size, 11, none⟩ = some (.bool false) := by simp [World.cell?, hV1]
  have HT1 : Hid (TT w1 base T s 1 h full 0) := hT1
  have HK1 : Hid (Keep base w w1) := (Keep.of_none kW).trans hk1
  have HS1 : Hid (SV w1 base s (.slice a n c0) (ds h s D)) := HS.out.keep hbw HK1.out.1
  clear hW hT1 hk1 hkt1 kW hV hV1
  go_wp2_with fail
  refine Calls.mono (fsucc_walk base T s D n c0 a 1 h full hs HH.out hD w1 HS1.out HT1.out) ?_
  rintro e w2 ⟨⟨c, rfl, hstop, hT2⟩, hk2⟩
  have HT2 : Hid (TT w2 base T s 1 h full c) := hT2
  have HK2 : Hid (Keep base w w2) := HK1.out.trans hk2
  have HST : Hid (Stop h s D c) := hstop
  have hc8 : c ≤ 8 := hstop.1
  clear hT2 hk2 hstop v0 v1 v2 v3 v4 v5 v6 v7 v8 v9 v10 v11
  go_wp2_with fail
  refine Calls.mono (TT.unlock HT2.out) ?_
  rintro e w3 ⟨rfl, hT3, hk3, hkt3⟩
  have HT3 : Hid (TT w3 base T s 0 h full c) := hT3
  have HK3 : Hid (Keep base w w3) := HK2.out.trans hk3
  have HR3 : Hid (RingEx w3 r h false) := HR.out.keep HK3.out
  have hs3 : w.heap.size ≤ w3.heap.size := HK3.out.size
  clear hT3 hk3 hkt3
  go_wp2
  go_loopw [10] (fun vi wr => ∃ i : Nat, i ≤ 8 ∧ vi = .int .i64 i ∧ TT wr base T s 0 h full i ∧ RingEx wr r h false ∧ Kept (base ≤ ·) w wr) (fun vi _ => 8 - (intOf vi).toNat)
  case atStart => exact ⟨c, hc8, rfl, HT3.out, HR3.out, HK3.out.1⟩
  case round =>
    obtain ⟨i, hi8, rfl, htt, hrr, hkk⟩ := hrel
    obtain ⟨nv, ev, hobj⟩ := htt.obj
    have t0 : wr.cell? ⟨T, 0, none⟩ = some (.int .u64 0) := by rw [cell_t hobj]; rfl
    have t1 : wr.cell? ⟨T, 1, none⟩ = some (.int .u64 0) := by rw [cell_t hobj]; rfl
    have t2 : wr.cell? ⟨T, 2, none⟩ = some (.int .u64 s) := by rw [cell_t hobj]; rfl
    have t3 : wr.cell? ⟨T, 3, none⟩ = some (.int .u8 8) := by rw [cell_t hobj]; rfl
    have hTl := lt_t hobj
    clear hobj
    have HTT : Hid (TT wr base T s 0 h full i) := htt
    have HRR : Hid (RingEx wr r h false) := hrr
    have HKK : Hid (Kept (base ≤ ·) w wr) := hkk
    have hwr := hkk.size
    clear htt hrr hkk
    by_cases hi : i < 8
    · have q1 : (i : Int) < 8 := by omega
      have hgt := RR_gt hs HH.out hi
      have hle := RR_le s (F h s i)
      obtain ⟨f, hf⟩ : ∃ f, F h s i = f := ⟨_, rfl⟩
      obtain ⟨g, hg⟩ : ∃ g, RR s f = g := ⟨_, rfl⟩
      have h27 := fun X (hX : TT X base T s 0 h full i) hX2 => find_ok base T r s i h full bgV hs HH.out hi X hX hX2
      have h28 := fun X (hX : TT X base T s 0 h full i) => TT.reach hs HH.out hi hX
      have h29 := fun X (hX : TT X base T s 1 h full i) => TT.fill hs HH.out hi hX
      rw [hf] at h27 h28 h29 hgt hle
      rw [hg] at h28 h29 hgt hle
      have H27 : Hid _ := h27
      have H28 : Hid _ := h28
      have H29 : Hid _ := h29
      clear h27 h28 h29
      go_wp2_with fail
      refine (bits_walk s _).mono ?_
      rintro e x1 ⟨rfl, hb1⟩
      have HX1 : Hid (TT x1 base T s 0 h full i) := HTT.out.below hb1
      have HY1 : Hid (RingEx x1 r h false) := HRR.out.keep (Keep.of_below (base := base) hb1)
      have HZ1 : Hid (Kept (base ≤ ·) w x1) := HKK.out.and (Kept.of_below hb1)
      clear hb1 t0 t1 t2 t3
      go_wp2_with fail
      refine Calls.mono (H27.out _ HX1.out HY1.out) ?_
      rintro e x2 ⟨rfl, hT2', hR2', hk2'⟩
      have HX2 : Hid (TT x2 base T s 0 h full i) := hT2'
      have HY2 : Hid (RingEx x2 r h false) := hR2'
      have HZ2 : Hid (Kept (base ≤ ·) w x2) := HZ1.out.and (hk2'.ofTr hbT hbr)
      have hTx2 : T < x2.heap.size := by have := HZ2.out.size; omega
      clear hT2' hR2' hk2'
      go_wp2_with fail
      refine (err_try _).mono ?_
      rintro e x3 ⟨rfl, hb3⟩
      generalize hX2 : x2.alloc _ = X2 at hb3
      have kX2 : Kept (fun _ => False) x2 X2 := by rw [← hX2]; exact (Kept.refl _ x2).alloc _
      have hPX : PeerAt X2 x2.heap.size f 8 := by rw [← hX2]; exact peer_alloc x2 f 8 38
      have k3 : Kept (fun _ => False) x2 x3 := kX2.and (Kept.of_below hb3)
      have HP3 : Hid (PeerAt x3 x2.heap.size f 8) := hPX.kept (M := fun _ => False) (Kept.of_below hb3) (fun x => x)
      have HX3 : Hid (TT x3 base T s 0 h full i) := HX2.out.of0 k3
      have HY3 : Hid (RingEx x3 r h false) := HY2.out.keep (Keep.of_none (base := base) k3)
      have HZ3 : Hid (Kept (base ≤ ·) w x3) := HZ2.out.and k3.wide
      clear hX2 hb3 kX2 hPX k3
      have p0 : x3.cell? ⟨x2.heap.size, 0, none⟩ = some (.int .u64 0) := HP3.out.c0
      have p1 : x3.cell? ⟨x2.heap.size, 1, none⟩ = some (.int .u64 0) := HP3.out.c1
      have p2 : x3.cell? ⟨x2.heap.size, 2, none⟩ = some (.int .u64 f) := HP3.out.c2
      have p3 : x3.cell? ⟨x2.heap.size, 3, none⟩ = some (.int .u8 8) := HP3.out.c3
      have p4 : x3.cell? ⟨x2.heap.size, 4, none⟩ = some (.string ⟨#[]⟩) := HP3.out.c4
      have p5 : x3.cell? ⟨x2.heap.size, 5, none⟩ = some (.string ⟨#[]⟩) := HP3.out.c5
      go_wp2_with fail
      refine Calls.mono (H28.out _ HX3.out) ?_
      rintro e x4 ⟨rfl, hb4⟩
      have HP4 : Hid (PeerAt x4 x2.heap.size f 8) := HP3.out.kept (M := fun _ => False) (Kept.of_below hb4) (fun x => x)
      have HX4 : Hid (TT x4 base T s 0 h full i) := HX3.out.below hb4
      have HY4 : Hid (RingEx x4 r h false) := HY3.out.keep (Keep.of_below (base := base) hb4)
      have HZ4 : Hid (Kept (base ≤ ·) w x4) := HZ3.out.and (Kept.of_below hb4)
      clear hb4 p0 p1 p2 p3 p4 p5
      go_wp2_with fail
      refine Calls.mono (TT.lock HX4.out) ?_
      rintro e x5 ⟨rfl, hT5, hk5, hkt5⟩
      have HP5 : Hid (PeerAt x5 x2.heap.size f 8) := HP4.out.kept hkt5 (by omega)
      have HX5 : Hid (TT x5 base T s 1 h full i) := hT5
      have HY5 : Hid (RingEx x5 r h false) := HY4.out.keep hk5
      have HZ5 : Hid (Kept (base ≤ ·) w x5) := HZ4.out.and hk5.1
      clear hT5 hk5 hkt5
      have p0 : x5.cell? ⟨x2.heap.size, 0, none⟩ = some (.int .u64 0) := HP5.out.c0
      have p1 : x5.cell? ⟨x2.heap.size, 1, none⟩ = some (.int .u64 0) := HP5.out.c1
      have p2 : x5.cell? ⟨x2.heap.size, 2, none⟩ = some (.int .u64 f) := HP5.out.c2
      have p3 : x5.cell? ⟨x2.heap.size, 3, none⟩ = some (.int .u8 8) := HP5.out.c3
      have p4 : x5.cell? ⟨x2.heap.size, 4, none⟩ = some (.string ⟨#[]⟩) := HP5.out.c4
      have p5 : x5.cell? ⟨x2.heap.size, 5, none⟩ = some (.string ⟨#[]⟩) := HP5.out.c5
      have qT5 : T < x5.heap.size := by have := HZ5.out.size; omega
      go_wp2
      go_region_with (go_at_call 29; refine Calls.mono (H29.out _ HX5.out.drew) ?_; rintro e x6 ⟨rfl, hT6, hK6⟩; have HX6 : Hid (TT x6 base T s 1 h full g) := hT6; have HK6 : Hid (Keep base x5 x6) := (Keep.of_none ((Kept.refl _ x5).drew)).trans hK6; clear hT6 hK6)
      all_goals clear p0 p1 p2 p3 p4 p5
      all_goals go_wp2_with fail
      all_goals refine Calls.mono (TT.unlock HX6.out) ?_
      all_goals rintro e x7 ⟨rfl, hT7, hk7, _⟩
      all_goals have HX7 : Hid (TT x7 base T s 0 h full g) := hT7
      all_goals have HK7 : Hid (Keep base x5 x7) := HK6.out.trans hk7
      all_goals clear hT7 hk7
      all_goals go_wp2
      all_goals exact ⟨⟨g, hle, rfl, HX7.out, HY5.out.keep HK7.out, HZ5.out.and HK7.out.1⟩, by simp [intOf]; omega⟩
    · obtain rfl : i = 8 := by omega
      go_wp2_with fail
      refine (bits_walk s _).mono ?_
      rintro e x1 ⟨rfl, hb1⟩
      have HX1 : Hid (TT x1 base T s 0 h full 8) := HTT.out.below hb1
      have HY1 : Hid (RingEx x1 r h false) := HRR.out.keep (Keep.of_below (base := base) hb1)
      have HZ1 : Hid (Kept (base ≤ ·) w x1) := HKK.out.and (Kept.of_below hb1)
      clear hb1 t0 t1 t2 t3
      go_wp2_with fail
      refine Calls.mono (TT.lock HX1.out) ?_
      rintro e x2 ⟨rfl, hT2', hk2', _⟩
      have HX2 : Hid (TT x2 base T s 1 h full 8) := hT2'
      have HK2' : Hid (Keep base x1 x2) := hk2'
      clear hT2' hk2'
      go_wp2_with fail
      refine Calls.mono (TT.trim HX2.out) ?_
      rintro e x3 ⟨rfl, hT3', hk3'⟩
      have HX3 : Hid (TT x3 base T s 1 h full 8) := hT3'
      have HK3' : Hid (Keep base x1 x3) := HK2'.out.trans hk3'
      clear hT3' hk3'
      go_wp2_with fail
      refine Calls.mono (TT.unlock HX3.out) ?_
      rintro e x4 ⟨rfl, hT4', hk4', _⟩
      have HX4 : Hid (TT x4 base T s 0 h full 8) := hT4'
      have HK4' : Hid (Keep base x1 x4) := HK3'.out.trans hk4'
      clear hT4' hk4'
      go_wp2
      go_returns
      exact ⟨rfl, HX4.out, HY1.out.keep HK4'.out, HZ1.out.and HK4'.out.1⟩
end Go.Proofs.Ybulkcmvc
