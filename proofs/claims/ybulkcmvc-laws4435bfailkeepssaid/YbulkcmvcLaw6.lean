import Derived.Test.YbulkcmvcLaw5
import Derived.Test.YbulkcmvcRefB
import Derived.Test.YbulkcmvcLem6
import Derived.Test.YbulkcmvcSuccs
import Derived.Test.YbulkcmvcLook
import Derived.Test.YbulkcmvcRingN
import Derived.Deep.MidRow
import Derived.WalkKit
import Derived.WalkSpells
import Derived.BigRegion
import Derived.BigQuiet
import Derived.Deep.QuietTactic
import Derived.Deep.RegionWith
import Derived.Deep.CutRange
import Derived.Handy
namespace Go.Proofs.Ybulkcmvc
open Go.RowKit
theorem w64m (c : Nat) (h : c ≤ 8) : wrap64 (8 - (c : Int)) = ((8 - c : Nat) : Int) := by unfold wrap64; omega

set_option maxRecDepth 100000 in
set_option maxHeartbeats 8000000 in
theorem law6 (s : Nat) (hs : s < 256) (a1 : Option Addr) (len1 cap1 : Nat) (a2 : Nat) (h2 : a2 < 256) (w : World) (hrow : ∀ i, i < len1 → ∃ (x : Addr) (v : Nat), v < 256 ∧ a1 = some x ∧ w.cell? (x.add i) = some (.int .u8 v)) (hl : len1 ≤ maxLen) :
    Calls Yba.prog 6 #[.int .u8 s, .slice a1 len1 cap1, .int .u8 a2] w fun e w' => e = .returned (.bool true) ∧ Below w.heap.size w w' := by
  have q0 : (s : Int) < 256 := by omega
  have HROW : Hid (∀ i, i < len1 → ∃ (x : Addr) (v : Nat), v < 256 ∧ a1 = some x ∧ w.cell? (x.add i) = some (.int .u8 v)) := hrow
  have HL : Hid (len1 ≤ maxLen) := hl
  clear hrow hl
  go_enter Yba.func6, Yba.ntmps6
  go_wp2
  go_loopw [23] (fun vi wr => ∃ (i : Nat) (h : Has), i ≤ len1 ∧ vi = .int .i64 i ∧ h s = true ∧ HasAt wr w.heap.size h ∧ Below w.heap.size w wr) (fun vi _ => len1 - (intOf vi).toNat)
  case atStart => exact ⟨0, _, by omega, rfl, by simp, has_first w s, (Below.refl _ _).alloc (Nat.le_refl _) _⟩
  case round =>
    obtain ⟨i, h, hi, rfl, hh, hhas, hbel⟩ := hrel
    by_cases hi2 : i < len1
    · have q1 : (i : Int) < (len1 : Int) := by omega
      obtain ⟨x, v, hv, rfl, hcx⟩ := HROW.out i hi2
      have hxl : (x.add i).block < w.heap.size := World.block_lt_of_cell? w _ hcx
      have cx : wr.cell? (x.add i) = some (.int .u8 v) := (hbel.cell hxl).trans hcx
      have cv := hhas.cell v hv
      have fv := hhas.free v
      have qv : (v : Int) < 256 := by omega
      have e2 : IntKind.i64.wrap ((i : Int) + 1) = (i : Int) + 1 := by
        have := HL.out
        unfold maxLen at this
        rw [IntKind.wrap_i64]; omega
      have HHS : Hid (HasAt wr w.heap.size h) := hhas
      have HB : Hid (Below w.heap.size w wr) := hbel
      clear hhas hbel hcx
      go_wp2
      exact ⟨⟨i + 1, _, by omega, by go_num, by simp [hh], HHS.out.set, HB.out.setCell (Nat.le_refl _) _⟩, by simp [intOf]; omega⟩
    · obtain rfl : i = len1 := by omega
      have hlt := hhas.lt
      have HHS : Hid (HasAt wr w.heap.size h) := hhas
      have HB : Hid (Below w.heap.size w wr) := hbel
      have HH : Hid (h s = true) := hh
      clear hhas hbel hh
      go_wp2_with fail
      refine Calls.mono (bsuccs_walk w.heap.size s a2 h hs h2 _ (fun k hk => HHS.out.cell k hk) hlt) ?_
      rintro e w1 ⟨⟨D, sv, hD, rfl, hown⟩, hb1⟩
      obtain ⟨a, c, rfl⟩ := own_shape hown
      obtain ⟨n, hn⟩ : ∃ n, (ds h s D).length = n := ⟨_, rfl⟩
      rw [hn] at hown ⊢
      have HO1 : Hid (w1.ownsRow wr.heap.size 38 6 (.slice a n c) n (srow s (ds h s D))) := hown
      have HN : Hid ((ds h s D).length = n) := hn
      have HB1 : Hid (Below w.heap.size w w1) := HB.out.trans (hb1.mono HB.out.size)
      have HH1 : Hid (HasAt w1 w.heap.size h) := HHS.out.kept (M := fun _ => False) (Kept.of_below hb1) (fun x => x)
      have hs1 : wr.heap.size ≤ w1.heap.size := hb1.size
      clear hown hb1 hn
      by_cases hn0 : n = 0
      · obtain ⟨sp, hsp⟩ : ∃ sp : Nat, sp = 0 := ⟨_, rfl⟩
        have x1 : ¬ ((0 : Int) < (n : Int)) := by omega
        have x3 : decide (0 < n) = false := decide_eq_false (by omega)
        have HNC : Hid (∀ c i, Stop h s D c → i < 8 → ¬ i < c → ¬ 2 ^ i ≤ sp) := fun c i st hi _ => by
          have := pow8 hi
          omega
        have HN0 : Hid (∀ c, Stop h s D c → c = 0) := fun c st => cov_none st (HN.out.trans hn0)
        clear hn0
        clear hsp
        go_upto_region 12 with fail
        go_wp2_with fail
        refine (bpeer_walk s _ (by omega) (by omega)).mono ?_
        rintro e w2 ⟨rfl, hb2⟩
        have k2 : Kept (fun _ => False) w1 w2 := Kept.of_below hb2
        have hs2 : w1.heap.size ≤ w2.heap.size := hb2.size
        clear hb2
        go_wp2_with fail
        refine (bpeer_walk s _ (by omega) (by omega)).mono ?_
        rintro e w3 ⟨rfl, hb3⟩
        have k3 : Kept (fun _ => False) w1 w3 := (k2.alloc _).trans (Kept.of_below (M := fun _ => False) hb3) (fun _ _ x => x)
        have hV3 : w3.heap[w2.heap.size]? = some (.cells #[.int .u64 0, .int .u64 0, .int .u64 s, .int .u8 8, .string ⟨#[]⟩, .string ⟨#[]⟩, .slice none 0 0, .slice a n c, .slice none 0 0, .slice none 0 0, .bool false, .bool false] 44 (0, 0)) := keep_t hb3 (by simp) (heap_alloc_new _ _)
        have HV3 : Hid _ := hV3
        have K3 : Hid (Kept (fun _ => False) w1 w3) := k3
        have hs3 : w2.heap.size < w3.heap.size := lt_t hV3
        clear hb3 hV3 k2 k3
        go_wp2_with fail
        refine (newtab_walk s h _).mono ?_
        rintro e w4 ⟨⟨T, rfl, hT4⟩, hb4⟩
        have hV4 := keep_t hb4 hs3 HV3.out
        have k4 : Kept (fun _ => False) w1 w4 := K3.out.trans (Kept.of_below (M := fun _ => False) hb4) (fun _ _ x => x)
        have HV4 : Hid (w4.heap[w2.heap.size]? = some (.cells #[.int .u64 0, .int .u64 0, .int .u64 s, .int .u8 8, .string ⟨#[]⟩, .string ⟨#[]⟩, .slice none 0 0, .slice a n c, .slice none 0 0, .slice none 0 0, .bool false, .bool false] 44 (0, 0))) := hV4
        have HT4 : Hid (TT w4 w3.heap.size T s 0 h false 0) := hT4
        have HB4 : Hid (Below w.heap.size w w4) := HB1.out.trans ((Kept.below k4 (Nat.le_refl _) (fun _ _ x => x)).mono (by have := HB1.out.size; omega))
        have HH4 : Hid (HasAt w4 w.heap.size h) := HH1.out.kept k4 (fun x => x)
        have HO4 : Hid (w4.ownsRow wr.heap.size 38 6 (.slice a n c) n (srow s (ds h s D))) := own_kept HO1.out k4 (fun _ _ x => x)
        have hl1 : w.heap.size < w1.heap.size := HH1.out.lt
        have hs4 : w3.heap.size ≤ w4.heap.size := hb4.size
        have hob : ∀ g, a = some g → g.block < w3.heap.size := by
          intro g hg
          subst hg
          have hob := own_lt HO1.out
          omega
        clear hb4 hV4 hT4 k4
        obtain ⟨cs, hcs, hcz, hck⟩ := HH4.out
        have hrange : w4.rangeAt w.heap.size 0 cs.toList := fun j v hv => by
          simp only [Array.getElem?_toList] at hv
          simp [World.cell?, hcs, hv]
        have HRG : Hid _ := hrange
        have HCS : Hid _ := hcs
        have HCZ : Hid (cs.size = 256) := hcz
        have HCK : Hid _ := hck
        clear hrange hcs hck
        have i31 : Hid ((Yba.prog.info? 31).map (·.size) = some cs.toList.length) := by
          show (Yba.prog.info? 31).map (·.size) = some cs.toList.length
          rw [Array.length_toList, HCZ.out]
          kernel_rfl
        have hfs : (Array.foldl (fun (cs : Array Value) (x : Value × Nat) => cs.setIfInBounds x.snd x.fst) Yba.zeroCells49 cs.zipIdx 0 256).size = 259 := by
          rw [(folda cs Yba.zeroCells49 HCZ.out (by rw [zero49]; simp)).1, zero49]
          simp
        go_wp2_with (first | (refine wpList_load_mid rfl 31 _ rfl w.heap.size 0 rfl cs.toList _ HRG.out Yba.underlying31 rfl i31.out ?_) | fail)
        generalize hW5 : w4.alloc _ = W
        have kW : Kept (fun _ => False) w4 W := by rw [← hW5]; exact (Kept.refl _ w4).alloc _
        have hRW : Ring W w4.heap.size h true 0 0 := by rw [← hW5]; exact ring_new6 (heap_alloc_new _ _) HCZ.out HCK.out
        have HRW : Hid (Ring W w4.heap.size h true 0 0) := hRW
        have hVx : W.heap[w2.heap.size]? = some (.cells #[.int .u64 0, .int .u64 0, .int .u64 s, .int .u8 8, .string ⟨#[]⟩, .string ⟨#[]⟩, .slice none 0 0, .slice a n c, .slice none 0 0, .slice none 0 0, .bool false, .bool false] 44 (0, 0)) := (kW.block _ (by omega) (fun x => x)).trans HV4.out
        have HTW : Hid (TT W w3.heap.size T s 0 h false 0) := HT4.out.of0 kW
        have HBW : Hid (Below w.heap.size w W) := HB4.out.trans ((Kept.below kW (Nat.le_refl _) (fun _ _ x => x)).mono HB4.out.size)
        have HHW : Hid (HasAt W w.heap.size h) := HH4.out.kept kW (fun x => x)
        have hSW : SV W w3.heap.size s (.slice a n c) (ds h s D) := sv_of (own_kept HO4.out kW (fun _ _ x => x)) HN.out hob
        have HSW : Hid (SV W w3.heap.size s (.slice a n c) (ds h s D)) := hSW
        have hsW : w3.heap.size ≤ W.heap.size := by have := kW.size; omega
        clear hW5 kW hRW hSW hcz hfs
        have v0 : W.cell? ⟨w2.heap.size, 0, none⟩ = some (.int .u64 0) := by simp [World.cell?, hVx]
        have v1 : W.cell? ⟨w2.heap.size, 1, none⟩ = some (.int .u64 0) := by simp [World.cell?, hVx]
        have v2 : W.cell? ⟨w2.heap.size, 2, none⟩ = some (.int .u64 s) := by simp [World.cell?, hVx]
        have v3 : W.cell? ⟨w2.heap.size, 3, none⟩ = some (.int .u8 8) := by simp [World.cell?, hVx]
        have v4 : W.cell? ⟨w2.heap.size, 4, none⟩ = some (.string ⟨#[]⟩) := by simp [World.cell?, hVx]
        have v5 : W.cell? ⟨w2.heap.size, 5, none⟩ = some (.string ⟨#[]⟩) := by simp [World.cell?, hVx]
        have v6 : W.cell? ⟨w2.heap.size, 6, none⟩ = some (.slice none 0 0) := by simp [World.cell?, hVx]
        have v7 : W.cell? ⟨w2.heap.size, 7, none⟩ = some (.slice a n c) := by simp [World.cell?, hVx]
        have v8 : W.cell? ⟨w2.heap.size, 8, none⟩ = some (.slice none 0 0) := by simp [World.cell?, hVx]
        have v9 : W.cell? ⟨w2.heap.size, 9, none⟩ = some (.slice none 0 0) := by simp [World.cell?, hVx]
        have v10 : W.cell? ⟨w2.heap.size, 10, none⟩ = some (.bool false) := by simp [World.cell?, hVx]
        have v11 : W.cell? ⟨w2.heap.size, 11, none⟩ = some (.bool false) := by simp [World.cell?, hVx]
        clear hVx
        have href := refresh_down w3.heap.size T w4.heap.size s D n c a h (.pointer none) hs HH.out hD hs4 W.drew (HSW.out.keep hsW ((Kept.refl _ W).drew)) HTW.out.drew (HRW.out.kept (M := fun _ => False) ((Kept.refl _ W).drew) (fun x => x))
        have HREF : Hid _ := href
        clear href
        go_upto_region 15 with fail
        go_cut [65] from 60 (fun v wy => v = .tuple #[] ∧ ∃ cc : Nat, Stop h s D cc ∧ TT wy w3.heap.size T s 0 h false cc ∧ Ring wy w4.heap.size h true ((8 - cc : Nat) : Int) 0 ∧ Kept (w3.heap.size ≤ ·) W wy)
        case first =>
          go_region_with (first
            | (go_at_call 14; refine (background_walk _).mono ?_; rintro e x1 ⟨rfl, rfl⟩)
            | (go_at_call 13; refine Calls.mono HREF.out ?_; rintro e x2 ⟨rfl, ⟨cc, hst, hT2, hR2⟩, hK2⟩; have HST : Hid (Stop h s D cc) := hst; have HT2 : Hid (TT x2 w3.heap.size T s 0 h false cc) := hT2; have HR2 : Hid (Ring x2 w4.heap.size h true ((8 - cc : Nat) : Int) 0) := hR2; have HK2 : Hid (Kept (w3.heap.size ≤ ·) W x2) := (Kept.refl _ W).drew.and hK2; clear hst hT2 hR2 hK2))
          all_goals (go_wp2_with fail; go_meet)
          all_goals exact ⟨rfl, cc, HST.out, HT2.out, HR2.out, HK2.out⟩
        case rest =>
          obtain ⟨rfl, cc, hst, hTc, hRc, hKc⟩ := hcut
          have hc8 : cc ≤ 8 := hst.1
          have HST : Hid (Stop h s D cc) := hst
          have HTC : Hid (TT wc w3.heap.size T s 0 h false cc) := hTc
          have HRC : Hid (Ring wc w4.heap.size h true ((8 - cc : Nat) : Int) 0) := hRc
          have HKC : Hid (Kept (w3.heap.size ≤ ·) W wc) := hKc
          have hTlc : T < wc.heap.size := by obtain ⟨nv, ev, ho⟩ := hTc.obj; exact lt_t ho
          clear hst hTc hRc hKc v0 v1 v2 v3 v4 v5 v6 v7 v8 v9 v10 v11
          go_wp2_with fail
          refine Calls.mono (TT.bruns6 hs HH.out hc8 HTC.out) ?_
          rintro e y1 ⟨rfl, hk1⟩
          have HT1 : Hid (TT y1 w3.heap.size T s 0 h false cc) := HTC.out.of0 hk1
          have HR1 : Hid (Ring y1 w4.heap.size h true ((8 - cc : Nat) : Int) 0) := HRC.out.kept hk1 (fun x => x)
          have HK1 : Hid (Kept (w3.heap.size ≤ ·) W y1) := HKC.out.and hk1.wide
          clear hk1
          go_wp2
          go_loopw [15, 16] (fun vc vi wr => ∃ i : Nat, i ≤ 8 ∧ vi = .int .i64 i ∧ vc = .int .i64 ((min i cc : Nat) : Int) ∧ TT wr w3.heap.size T s 0 h false cc ∧ Ring wr w4.heap.size h true ((8 - cc : Nat) : Int) 0 ∧ Kept (w3.heap.size ≤ ·) W wr) (fun _ vi _ => 8 - (intOf vi).toNat)
          case atStart => exact ⟨0, by omega, rfl, by simp, HT1.out, HR1.out, HK1.out⟩
          case round =>
            obtain ⟨i, hi, rfl, rfl, htt, hrr, hkk⟩ := hrel
            obtain ⟨wz, rfl⟩ : ∃ x, x = wr := ⟨wr, rfl⟩
            have HTZ : Hid (TT wz w3.heap.size T s 0 h false cc) := htt
            have HRZ : Hid (Ring wz w4.heap.size h true ((8 - cc : Nat) : Int) 0) := hrr
            have HKZ : Hid (Kept (w3.heap.size ≤ ·) W wz) := hkk
            have HHZ : Hid (HasAt wz w.heap.size h) := HHW.out.kept hkk (Nat.not_le.2 (by omega))
            have hTlz : T < wz.heap.size := by obtain ⟨nv, ev, ho⟩ := htt.obj; exact lt_t ho
            clear htt hrr hkk
            obtain ⟨cv, hcv⟩ : ∃ cv : Nat, min i cc = cv := ⟨_, rfl⟩
            rw [hcv]
            by_cases hi8 : i < 8
            · have q2 : (i : Int) < 8 := by omega
              obtain ⟨p2, hp2⟩ : ∃ p2 : Nat, 2 ^ i = p2 := ⟨_, rfl⟩
              have h128 := pow8 hi8
              rw [hp2] at h128
              have ep : (2 : Int) ^ i % 256 = (p2 : Int) := by
                have : (2 : Int) ^ i = (p2 : Int) := by rw [← hp2]; simp
                rw [this]
                omega
              go_upto_region 24 with fail
              rw [ep]
              by_cases hic : i < cc
              · exact absurd hic (by have := HN0.out cc HST.out; omega)
              · have hnl := HNC.out cc i HST.out hi8 hic
                rw [hp2] at hnl
                have y7 : ¬ ((p2 : Int) ≤ (sp : Int)) := by omega
                have y8 : decide (p2 ≤ sp) = false := decide_eq_false hnl
                have hbat := fun X (hX : TT X w3.heap.size T s 0 h false cc) => TT.bat6 hs HH.out hc8 hi8 hX
                rw [if_neg hic] at hbat
                have HBAT : Hid _ := hbat
                clear hbat
                have eqf := eqzz
                go_upto_region 27 with fail
                generalize hZ : wz.alloc _ = Z
                have kZ : Kept (fun _ => False) wz Z := by rw [← hZ]; exact (Kept.refl _ wz).alloc _
                have HPZ : Hid (PeerAt Z wz.heap.size 0 0) := by rw [← hZ]; exact peer_alloc wz 0 0 38
                have HTZ2 : Hid (TT Z w3.heap.size T s 0 h false cc) := HTZ.out.of0 kZ
                have HRZ2 : Hid (Ring Z w4.heap.size h true ((8 - cc : Nat) : Int) 0) := HRZ.out.kept kZ (fun x => x)
                have HKZ2 : Hid (Kept (w3.heap.size ≤ ·) W Z) := HKZ.out.and kZ.wide
                have hTZ : T < Z.heap.size := by have := kZ.size; omega
                have hPl : wz.heap.size < Z.heap.size := HPZ.out.lt
                clear kZ
                clear hZ y7 y8
                have p0 : Z.cell? ⟨wz.heap.size, 0, none⟩ = some (.int .u64 0) := HPZ.out.c0
                have p1 : Z.cell? ⟨wz.heap.size, 1, none⟩ = some (.int .u64 0) := HPZ.out.c1
                have p2 : Z.cell? ⟨wz.heap.size, 2, none⟩ = some (.int .u64 0) := HPZ.out.c2
                have p3 : Z.cell? ⟨wz.heap.size, 3, none⟩ = some (.int .u8 0) := HPZ.out.c3
                have p4 : Z.cell? ⟨wz.heap.size, 4, none⟩ = some (.string ⟨#[]⟩) := HPZ.out.c4
                have p5 : Z.cell? ⟨wz.heap.size, 5, none⟩ = some (.string ⟨#[]⟩) := HPZ.out.c5
                go_region_with (go_at_call 17; refine Calls.mono (HBAT.out _ HTZ2.out.drew) ?_; rintro e z3 ⟨rfl, hb3⟩; have r0 : z3.cell? ⟨wz.heap.size, 0, none⟩ = some (.int .u64 0) := (hb3.cell (p := ⟨wz.heap.size, 0, none⟩) hPl).trans p0; have r1 : z3.cell? ⟨wz.heap.size, 1, none⟩ = some (.int .u64 0) := (hb3.cell (p := ⟨wz.heap.size, 1, none⟩) hPl).trans p1; have r2 : z3.cell? ⟨wz.heap.size, 2, none⟩ = some (.int .u64 0) := (hb3.cell (p := ⟨wz.heap.size, 2, none⟩) hPl).trans p2; have r3 : z3.cell? ⟨wz.heap.size, 3, none⟩ = some (.int .u8 0) := (hb3.cell (p := ⟨wz.heap.size, 3, none⟩) hPl).trans p3; have r4 : z3.cell? ⟨wz.heap.size, 4, none⟩ = some (.string ⟨#[]⟩) := (hb3.cell (p := ⟨wz.heap.size, 4, none⟩) hPl).trans p4; have r5 : z3.cell? ⟨wz.heap.size, 5, none⟩ = some (.string ⟨#[]⟩) := (hb3.cell (p := ⟨wz.heap.size, 5, none⟩) hPl).trans p5; have k3 : Kept (fun _ => False) Z z3 := (Kept.refl _ Z).drew.trans (Kept.of_below (M := fun _ => False) hb3) (fun _ _ x => x); have K3 : Hid (Kept (fun _ => False) Z z3) := k3; clear hb3 k3)
                all_goals clear p0 p1 p2 p3 p4 p5
                all_goals go_wp2
                all_goals exact ⟨⟨i + 1, by omega, by go_num, by congr 1; omega, HTZ2.out.of0 K3.out, HRZ2.out.kept K3.out (fun x => x), HKZ2.out.and K3.out.wide⟩, by simp [intOf]; omega⟩
            · obtain rfl : i = 8 := by omega
              have hcc : cc = cv := by omega
              have rf := HRZ.out.finds
              have rp := HRZ.out.preds
              have hrl := HRZ.out.lt
              have e8 := w64m cv (by omega)
              rw [hcc] at rf
              obtain ⟨fd, hfd⟩ : ∃ fd : Int, ((8 - cv : Nat) : Int) = fd := ⟨_, rfl⟩
              rw [hfd] at rf e8
              clear hcv hcc hfd hc8
              go_wp2
              go_ret
              exact ⟨rfl, HBW.out.trans ((Kept.below HKZ.out hsW (fun k a b => Nat.not_le.2 a b)).mono (by omega))⟩
      · obtain ⟨m, hm⟩ : ∃ m, n = m + 1 := ⟨n - 1, by omega⟩
        have hdl := ds_last (HN.out.trans hm)
        obtain ⟨sp, hsp⟩ : ∃ sp : Nat, (ds h s D).getD m 0 = sp := ⟨_, rfl⟩
        rw [hsp] at hdl
        have hmem := ds_mem.1 hdl.1
        have hsv : SV w1 w1.heap.size s (.slice a n c) (ds h s D) := sv_of HO1.out HN.out (fun g hg => by subst hg; exact own_lt HO1.out)
        obtain ⟨a', c', e', hcells⟩ := hsv
        obtain ⟨G, hG, _, hcl2⟩ := hcells (by rw [HN.out]; omega)
        injection e' with ea en ec
        clear en ec
        subst ea hG
        have cl := hcl2 m (by rw [HN.out]; omega) 2 (by decide)
        rw [hsp] at cl
        obtain ⟨v, hv⟩ : ∃ v : Nat, (s + sp) % 256 = v := ⟨_, rfl⟩
        rw [hv] at cl
        have cl' : w1.cell? ⟨G, m * 6 + 2, none⟩ = some (.int .u64 v) := cl
        have cl'' : w1.cell? ⟨G, (n - 1) * 6 + 2, none⟩ = some (.int .u64 v) := by rw [show n - 1 = m by omega]; exact cl'
        have n256 : n < 256 := by have := ds_bound (h := h) (s := s) hD; have := HN.out; omega
        have hcov := fun c i (st : Stop h s D c) (hi : i < 8) => cov_iff st hi (HN.out.trans hm)
        rw [hsp] at hcov
        have HCV : Hid (∀ c i, Stop h s D c → i < 8 → i < c → 2 ^ i ≤ sp) := fun c i st hi h => (hcov c i st hi).2 h
        have HNC : Hid (∀ c i, Stop h s D c → i < 8 → ¬ i < c → ¬ 2 ^ i ≤ sp) := fun c i st hi h x => h ((hcov c i st hi).1 x)
        clear hcov
        have u1 : IntKind.u8.wrap (v : Int) = v := by rw [IntKind.wrap_u8]; omega
        have u2 : IntKind.u8.wrap ((v : Int) - (s : Int)) = sp := by rw [IntKind.wrap_u8]; omega
        have x4 : (m : Int) < (n : Int) := by omega
        have x1 : (0 : Int) < (n : Int) := by omega
        have x2 : 0 < n := by omega
        have x3 : decide (0 < n) = true := decide_eq_true x2
        have x6 := w64s n m hm.symm n256
        clear hdl hmem hcells hcl2 cl hsp hm hn0
        go_upto_region 12 with fail
        clear x6 x4 u1 u2 cl' cl''
        go_wp2_with fail
        refine (bpeer_walk s _ (by omega) (by omega)).mono ?_
        rintro e w2 ⟨rfl, hb2⟩
        have k2 : Kept (fun _ => False) w1 w2 := Kept.of_below hb2
        have hs2 : w1.heap.size ≤ w2.heap.size := hb2.size
        clear hb2
        go_wp2_with fail
        refine (bpeer_walk s _ (by omega) (by omega)).mono ?_
        rintro e w3 ⟨rfl, hb3⟩
        have k3 : Kept (fun _ => False) w1 w3 := (k2.alloc _).trans (Kept.of_below (M := fun _ => False) hb3) (fun _ _ x => x)
        have hV3 : w3.heap[w2.heap.size]? = some (.cells #[.int .u64 0, .int .u64 0, .int .u64 s, .int .u8 8, .string ⟨#[]⟩, .string ⟨#[]⟩, .slice none 0 0, .slice (some ⟨G, 0, none⟩) n c, .slice none 0 0, .slice none 0 0, .bool false, .bool false] 44 (0, 0)) := keep_t hb3 (by simp) (heap_alloc_new _ _)
        have HV3 : Hid _ := hV3
        have K3 : Hid (Kept (fun _ => False) w1 w3) := k3
        have hs3 : w2.heap.size < w3.heap.size := lt_t hV3
        clear hb3 hV3 k2 k3
        go_wp2_with fail
        refine (newtab_walk s h _).mono ?_
        rintro e w4 ⟨⟨T, rfl, hT4⟩, hb4⟩
        have hV4 := keep_t hb4 hs3 HV3.out
        have k4 : Kept (fun _ => False) w1 w4 := K3.out.trans (Kept.of_below (M := fun _ => False) hb4) (fun _ _ x => x)
        have HV4 : Hid (w4.heap[w2.heap.size]? = some (.cells #[.int .u64 0, .int .u64 0, .int .u64 s, .int .u8 8, .string ⟨#[]⟩, .string ⟨#[]⟩, .slice none 0 0, .slice (some ⟨G, 0, none⟩) n c, .slice none 0 0, .slice none 0 0, .bool false, .bool false] 44 (0, 0))) := hV4
        have HT4 : Hid (TT w4 w3.heap.size T s 0 h false 0) := hT4
        have HB4 : Hid (Below w.heap.size w w4) := HB1.out.trans ((Kept.below k4 (Nat.le_refl _) (fun _ _ x => x)).mono (by have := HB1.out.size; omega))
        have HH4 : Hid (HasAt w4 w.heap.size h) := HH1.out.kept k4 (fun x => x)
        have HO4 : Hid (w4.ownsRow wr.heap.size 38 6 (.slice (some ⟨G, 0, none⟩) n c) n (srow s (ds h s D))) := own_kept HO1.out k4 (fun _ _ x => x)
        have hl1 : w.heap.size < w1.heap.size := HH1.out.lt
        have hs4 : w3.heap.size ≤ w4.heap.size := hb4.size
        have hob : ∀ g, (some ⟨G, 0, none⟩ : Option Addr) = some g → g.block < w3.heap.size := by
          intro g hg
          injection hg with hg
          subst hg
          have hob := own_lt HO1.out
          simp only at hob ⊢
          omega
        clear hb4 hV4 hT4 k4
        obtain ⟨cs, hcs, hcz, hck⟩ := HH4.out
        have hrange : w4.rangeAt w.heap.size 0 cs.toList := fun j v hv => by
          simp only [Array.getElem?_toList] at hv
          simp [World.cell?, hcs, hv]
        have HRG : Hid _ := hrange
        have HCS : Hid _ := hcs
        have HCZ : Hid (cs.size = 256) := hcz
        have HCK : Hid _ := hck
        clear hrange hcs hck
        have i31 : Hid ((Yba.prog.info? 31).map (·.size) = some cs.toList.length) := by
          show (Yba.prog.info? 31).map (·.size) = some cs.toList.length
          rw [Array.length_toList, HCZ.out]
          kernel_rfl
        have hfs : (Array.foldl (fun (cs : Array Value) (x : Value × Nat) => cs.setIfInBounds x.snd x.fst) Yba.zeroCells49 cs.zipIdx 0 256).size = 259 := by
          rw [(folda cs Yba.zeroCells49 HCZ.out (by rw [zero49]; simp)).1, zero49]
          simp
        go_wp2_with (first | (refine wpList_load_mid rfl 31 _ rfl w.heap.size 0 rfl cs.toList _ HRG.out Yba.underlying31 rfl i31.out ?_) | fail)
        generalize hW5 : w4.alloc _ = W
        have kW : Kept (fun _ => False) w4 W := by rw [← hW5]; exact (Kept.refl _ w4).alloc _
        have hRW : Ring W w4.heap.size h true 0 0 := by rw [← hW5]; exact ring_new6 (heap_alloc_new _ _) HCZ.out HCK.out
        have HRW : Hid (Ring W w4.heap.size h true 0 0) := hRW
        have hVx : W.heap[w2.heap.size]? = some (.cells #[.int .u64 0, .int .u64 0, .int .u64 s, .int .u8 8, .string ⟨#[]⟩, .string ⟨#[]⟩, .slice none 0 0, .slice (some ⟨G, 0, none⟩) n c, .slice none 0 0, .slice none 0 0, .bool false, .bool false] 44 (0, 0)) := (kW.block _ (by omega) (fun x => x)).trans HV4.out
        have HTW : Hid (TT W w3.heap.size T s 0 h false 0) := HT4.out.of0 kW
        have HBW : Hid (Below w.heap.size w W) := HB4.out.trans ((Kept.below kW (Nat.le_refl _) (fun _ _ x => x)).mono HB4.out.size)
        have HHW : Hid (HasAt W w.heap.size h) := HH4.out.kept kW (fun x => x)
        have hSW : SV W w3.heap.size s (.slice (some ⟨G, 0, none⟩) n c) (ds h s D) := sv_of (own_kept HO4.out kW (fun _ _ x => x)) HN.out hob
        have HSW : Hid (SV W w3.heap.size s (.slice (some ⟨G, 0, none⟩) n c) (ds h s D)) := hSW
        have hsW : w3.heap.size ≤ W.heap.size := by have := kW.size; omega
        clear hW5 kW hRW hSW hcz hfs
        have v0 : W.cell? ⟨w2.heap.size, 0, none⟩ = some (.int .u64 0) := by simp [World.cell?, hVx]
        have v1 : W.cell? ⟨w2.heap.size, 1, none⟩ = some (.int .u64 0) := by simp [World.cell?, hVx]
        have v2 : W.cell? ⟨w2.heap.size, 2, none⟩ = some (.int .u64 s) := by simp [World.cell?, hVx]
        have v3 : W.cell? ⟨w2.heap.size, 3, none⟩ = some (.int .u8 8) := by simp [World.cell?, hVx]
        have v4 : W.cell? ⟨w2.heap.size, 4, none⟩ = some (.string ⟨#[]⟩) := by simp [World.cell?, hVx]
        have v5 : W.cell? ⟨w2.heap.size, 5, none⟩ = some (.string ⟨#[]⟩) := by simp [World.cell?, hVx]
        have v6 : W.cell? ⟨w2.heap.size, 6, none⟩ = some (.slice none 0 0) := by simp [World.cell?, hVx]
        have v7 : W.cell? ⟨w2.heap.size, 7, none⟩ = some (.slice (some ⟨G, 0, none⟩) n c) := by simp [World.cell?, hVx]
        have v8 : W.cell? ⟨w2.heap.size, 8, none⟩ = some (.slice none 0 0) := by simp [World.cell?, hVx]
        have v9 : W.cell? ⟨w2.heap.size, 9, none⟩ = some (.slice none 0 0) := by simp [World.cell?, hVx]
        have v10 : W.cell? ⟨w2.heap.size, 10, none⟩ = some (.bool false) := by simp [World.cell?, hVx]
        have v11 : W.cell? ⟨w2.heap.size, 11, none⟩ = some (.bool false) := by simp [World.cell?, hVx]
        clear hVx
        have href := refresh_down w3.heap.size T w4.heap.size s D n c (some ⟨G, 0, none⟩) h (.pointer none) hs HH.out hD hs4 W.drew (HSW.out.keep hsW ((Kept.refl _ W).drew)) HTW.out.drew (HRW.out.kept (M := fun _ => False) ((Kept.refl _ W).drew) (fun x => x))
        have HREF : Hid _ := href
        clear href
        go_upto_region 15 with fail
        go_cut [65] from 60 (fun v wy => v = .tuple #[] ∧ ∃ cc : Nat, Stop h s D cc ∧ TT wy w3.heap.size T s 0 h false cc ∧ Ring wy w4.heap.size h true ((8 - cc : Nat) : Int) 0 ∧ Kept (w3.heap.size ≤ ·) W wy)
        case first =>
          go_region_with (first
            | (go_at_call 14; refine (background_walk _).mono ?_; rintro e x1 ⟨rfl, rfl⟩)
            | (go_at_call 13; refine Calls.mono HREF.out ?_; rintro e x2 ⟨rfl, ⟨cc, hst, hT2, hR2⟩, hK2⟩; have HST : Hid (Stop h s D cc) := hst; have HT2 : Hid (TT x2 w3.heap.size T s 0 h false cc) := hT2; have HR2 : Hid (Ring x2 w4.heap.size h true ((8 - cc : Nat) : Int) 0) := hR2; have HK2 : Hid (Kept (w3.heap.size ≤ ·) W x2) := (Kept.refl _ W).drew.and hK2; clear hst hT2 hR2 hK2))
          all_goals (go_wp2_with fail; go_meet)
          all_goals exact ⟨rfl, cc, HST.out, HT2.out, HR2.out, HK2.out⟩
        case rest =>
          obtain ⟨rfl, cc, hst, hTc, hRc, hKc⟩ := hcut
          have hc8 : cc ≤ 8 := hst.1
          have HST : Hid (Stop h s D cc) := hst
          have HTC : Hid (TT wc w3.heap.size T s 0 h false cc) := hTc
          have HRC : Hid (Ring wc w4.heap.size h true ((8 - cc : Nat) : Int) 0) := hRc
          have HKC : Hid (Kept (w3.heap.size ≤ ·) W wc) := hKc
          have hTlc : T < wc.heap.size := by obtain ⟨nv, ev, ho⟩ := hTc.obj; exact lt_t ho
          clear hst hTc hRc hKc v0 v1 v2 v3 v4 v5 v6 v7 v8 v9 v10 v11
          go_wp2_with fail
          refine Calls.mono (TT.bruns6 hs HH.out hc8 HTC.out) ?_
          rintro e y1 ⟨rfl, hk1⟩
          have HT1 : Hid (TT y1 w3.heap.size T s 0 h false cc) := HTC.out.of0 hk1
          have HR1 : Hid (Ring y1 w4.heap.size h true ((8 - cc : Nat) : Int) 0) := HRC.out.kept hk1 (fun x => x)
          have HK1 : Hid (Kept (w3.heap.size ≤ ·) W y1) := HKC.out.and hk1.wide
          clear hk1
          go_wp2
          go_loopw [15, 16] (fun vc vi wr => ∃ i : Nat, i ≤ 8 ∧ vi = .int .i64 i ∧ vc = .int .i64 ((min i cc : Nat) : Int) ∧ TT wr w3.heap.size T s 0 h false cc ∧ Ring wr w4.heap.size h true ((8 - cc : Nat) : Int) 0 ∧ Kept (w3.heap.size ≤ ·) W wr) (fun _ vi _ => 8 - (intOf vi).toNat)
          case atStart => exact ⟨0, by omega, rfl, by simp, HT1.out, HR1.out, HK1.out⟩
          case round =>
            obtain ⟨i, hi, rfl, rfl, htt, hrr, hkk⟩ := hrel
            obtain ⟨wz, rfl⟩ : ∃ x, x = wr := ⟨wr, rfl⟩
            have HTZ : Hid (TT wz w3.heap.size T s 0 h false cc) := htt
            have HRZ : Hid (Ring wz w4.heap.size h true ((8 - cc : Nat) : Int) 0) := hrr
            have HKZ : Hid (Kept (w3.heap.size ≤ ·) W wz) := hkk
            have HHZ : Hid (HasAt wz w.heap.size h) := HHW.out.kept hkk (Nat.not_le.2 (by omega))
            have hTlz : T < wz.heap.size := by obtain ⟨nv, ev, ho⟩ := htt.obj; exact lt_t ho
            clear htt hrr hkk
            obtain ⟨cv, hcv⟩ : ∃ cv : Nat, min i cc = cv := ⟨_, rfl⟩
            rw [hcv]
            by_cases hi8 : i < 8
            · have q2 : (i : Int) < 8 := by omega
              obtain ⟨p2, hp2⟩ : ∃ p2 : Nat, 2 ^ i = p2 := ⟨_, rfl⟩
              have h128 := pow8 hi8
              rw [hp2] at h128
              have ep : (2 : Int) ^ i % 256 = (p2 : Int) := by
                have : (2 : Int) ^ i = (p2 : Int) := by rw [← hp2]; simp
                rw [this]
                omega
              go_upto_region 24 with fail
              rw [ep]
              by_cases hic : i < cc
              · have hle := HCV.out cc i HST.out hi8 hic
                rw [hp2] at hle
                have y7 : (p2 : Int) ≤ (sp : Int) := by omega
                have y8 : decide (p2 ≤ sp) = true := decide_eq_true hle
                have hbat := fun X (hX : TT X w3.heap.size T s 0 h false cc) => TT.bat6 hs HH.out hc8 hi8 hX
                have hbs : ∀ X, HasAt X w.heap.size h → Calls Yba.prog 16 #[.pointer (some ⟨w.heap.size, 0, none⟩), .int .u8 (((s : Int) + p2) % 256)] X fun e w' => e = .returned (.int .u8 (F h s i)) ∧ w' = X := by
                  intro X hX
                  have h0 := bsucc_walk h w.heap.size ((s + 2 ^ i) % 256) (Nat.mod_lt _ (by decide)) X (fun k hk => hX.cell k hk)
                  have e0 : (((s + 2 ^ i) % 256 : Nat) : Int) = ((s : Int) + p2) % 256 := by rw [hp2]; simp
                  rw [e0] at h0
                  exact h0
                rw [if_pos hic] at hbat
                have hf256 : F h s i < 256 := nxt_lt _ _
                obtain ⟨f, hf⟩ : ∃ f, F h s i = f := ⟨_, rfl⟩
                rw [hf] at hbs hbat hf256
                have HBS : Hid _ := hbs
                have HBAT : Hid _ := hbat
                clear hbs hbat hf
                have eqf := eqpeer f f
                rw [show ((f : Int) == (f : Int)) = true by simp] at eqf
                go_wp2_with fail
                refine Calls.mono (HBS.out _ (HHZ.out.kept ((Kept.refl (fun _ => False) wz).alloc _) (fun x => x))) ?_
                rintro e z1 ⟨rfl, rfl⟩
                go_wp2_with fail
                refine (bpeer_walk f _ (by omega) (by omega)).mono ?_
                rintro e z2 ⟨rfl, hb2⟩
                have hS2 : Slot z2 wz.heap.size 0 0 := (slot_alloc wz 0 0 38).kept (M := fun _ => False) (Kept.of_below hb2) (fun x => x)
                have k2 : Kept (fun _ => False) wz z2 := ((Kept.refl _ wz).alloc _).trans (Kept.of_below (M := fun _ => False) hb2) (fun _ _ x => x)
                have y0 : z2.cell? ⟨wz.heap.size, 0, none⟩ = some (.int .u64 0) := hS2.p.c0
                have y1 : z2.cell? ⟨wz.heap.size, 1, none⟩ = some (.int .u64 0) := hS2.p.c1
                have y2 : z2.cell? ⟨wz.heap.size, 2, none⟩ = some (.int .u64 0) := hS2.p.c2
                have y3 : z2.cell? ⟨wz.heap.size, 3, none⟩ = some (.int .u8 0) := hS2.p.c3
                have y4 : z2.cell? ⟨wz.heap.size, 4, none⟩ = some (.string ⟨#[]⟩) := hS2.p.c4
                have y5 : z2.cell? ⟨wz.heap.size, 5, none⟩ = some (.string ⟨#[]⟩) := hS2.p.c5
                have yf := hS2.f
                have HS2 : Hid (Slot z2 wz.heap.size 0 0) := hS2
                have hyl := hS2.p.lt
                clear hb2 hS2
                go_upto_region 27 with fail
                generalize hZ : World.setCell _ _ _ = Z
                have hZ2 : setPeer z2 wz.heap.size f 8 = Z := hZ
                have kZ : Kept (fun _ => False) wz Z := by rw [← hZ2]; exact kept_set k2 (Nat.le_refl _)
                have HPZ : Hid (PeerAt Z wz.heap.size f 8) := by rw [← hZ2]; exact peer_set f 8 HS2.out.p
                have HTZ2 : Hid (TT Z w3.heap.size T s 0 h false cc) := HTZ.out.of0 kZ
                have HRZ2 : Hid (Ring Z w4.heap.size h true ((8 - cc : Nat) : Int) 0) := HRZ.out.kept kZ (fun x => x)
                have HKZ2 : Hid (Kept (w3.heap.size ≤ ·) W Z) := HKZ.out.and kZ.wide
                have hTZ : T < Z.heap.size := by have := kZ.size; omega
                have hPl : wz.heap.size < Z.heap.size := HPZ.out.lt
                clear kZ
                clear hZ hZ2 k2 y0 y1 y2 y3 y4 y5 yf y7 y8
                have p0 : Z.cell? ⟨wz.heap.size, 0, none⟩ = some (.int .u64 0) := HPZ.out.c0
                have p1 : Z.cell? ⟨wz.heap.size, 1, none⟩ = some (.int .u64 0) := HPZ.out.c1
                have p2 : Z.cell? ⟨wz.heap.size, 2, none⟩ = some (.int .u64 f) := HPZ.out.c2
                have p3 : Z.cell? ⟨wz.heap.size, 3, none⟩ = some (.int .u8 8) := HPZ.out.c3
                have p4 : Z.cell? ⟨wz.heap.size, 4, none⟩ = some (.string ⟨#[]⟩) := HPZ.out.c4
                have p5 : Z.cell? ⟨wz.heap.size, 5, none⟩ = some (.string ⟨#[]⟩) := HPZ.out.c5
                go_region_with (go_at_call 17; refine Calls.mono (HBAT.out _ HTZ2.out.drew) ?_; rintro e z3 ⟨rfl, hb3⟩; have r0 : z3.cell? ⟨wz.heap.size, 0, none⟩ = some (.int .u64 0) := (hb3.cell (p := ⟨wz.heap.size, 0, none⟩) hPl).trans p0; have r1 : z3.cell? ⟨wz.heap.size, 1, none⟩ = some (.int .u64 0) := (hb3.cell (p := ⟨wz.heap.size, 1, none⟩) hPl).trans p1; have r2 : z3.cell? ⟨wz.heap.size, 2, none⟩ = some (.int .u64 f) := (hb3.cell (p := ⟨wz.heap.size, 2, none⟩) hPl).trans p2; have r3 : z3.cell? ⟨wz.heap.size, 3, none⟩ = some (.int .u8 8) := (hb3.cell (p := ⟨wz.heap.size, 3, none⟩) hPl).trans p3; have r4 : z3.cell? ⟨wz.heap.size, 4, none⟩ = some (.string ⟨#[]⟩) := (hb3.cell (p := ⟨wz.heap.size, 4, none⟩) hPl).trans p4; have r5 : z3.cell? ⟨wz.heap.size, 5, none⟩ = some (.string ⟨#[]⟩) := (hb3.cell (p := ⟨wz.heap.size, 5, none⟩) hPl).trans p5; have k3 : Kept (fun _ => False) Z z3 := (Kept.refl _ Z).drew.trans (Kept.of_below (M := fun _ => False) hb3) (fun _ _ x => x); have K3 : Hid (Kept (fun _ => False) Z z3) := k3; clear hb3 k3)
                all_goals clear p0 p1 p2 p3 p4 p5
                all_goals go_wp2
                all_goals exact ⟨⟨i + 1, by omega, by go_num, by congr 1; omega, HTZ2.out.of0 K3.out, HRZ2.out.kept K3.out (fun x => x), HKZ2.out.and K3.out.wide⟩, by simp [intOf]; omega⟩
              · have hnl := HNC.out cc i HST.out hi8 hic
                rw [hp2] at hnl
                have y7 : ¬ ((p2 : Int) ≤ (sp : Int)) := by omega
                have y8 : decide (p2 ≤ sp) = false := decide_eq_false hnl
                have hbat := fun X (hX : TT X w3.heap.size T s 0 h false cc) => TT.bat6 hs HH.out hc8 hi8 hX
                rw [if_neg hic] at hbat
                have HBAT : Hid _ := hbat
                clear hbat
                have eqf := eqzz
                go_upto_region 27 with fail
                generalize hZ : wz.alloc _ = Z
                have kZ : Kept (fun _ => False) wz Z := by rw [← hZ]; exact (Kept.refl _ wz).alloc _
                have HPZ : Hid (PeerAt Z wz.heap.size 0 0) := by rw [← hZ]; exact peer_alloc wz 0 0 38
                have HTZ2 : Hid (TT Z w3.heap.size T s 0 h false cc) := HTZ.out.of0 kZ
                have HRZ2 : Hid (Ring Z w4.heap.size h true ((8 - cc : Nat) : Int) 0) := HRZ.out.kept kZ (fun x => x)
                have HKZ2 : Hid (Kept (w3.heap.size ≤ ·) W Z) := HKZ.out.and kZ.wide
                have hTZ : T < Z.heap.size := by have := kZ.size; omega
                have hPl : wz.heap.size < Z.heap.size := HPZ.out.lt
                clear kZ
                clear hZ y7 y8
                have p0 : Z.cell? ⟨wz.heap.size, 0, none⟩ = some (.int .u64 0) := HPZ.out.c0
                have p1 : Z.cell? ⟨wz.heap.size, 1, none⟩ = some (.int .u64 0) := HPZ.out.c1
                have p2 : Z.cell? ⟨wz.heap.size, 2, none⟩ = some (.int .u64 0) := HPZ.out.c2
                have p3 : Z.cell? ⟨wz.heap.size, 3, none⟩ = some (.int .u8 0) := HPZ.out.c3
                have p4 : Z.cell? ⟨wz.heap.size, 4, none⟩ = some (.string ⟨#[]⟩) := HPZ.out.c4
                have p5 : Z.cell? ⟨wz.heap.size, 5, none⟩ = some (.string ⟨#[]⟩) := HPZ.out.c5
                go_region_with (go_at_call 17; refine Calls.mono (HBAT.out _ HTZ2.out.drew) ?_; rintro e z3 ⟨rfl, hb3⟩; have r0 : z3.cell? ⟨wz.heap.size, 0, none⟩ = some (.int .u64 0) := (hb3.cell (p := ⟨wz.heap.size, 0, none⟩) hPl).trans p0; have r1 : z3.cell? ⟨wz.heap.size, 1, none⟩ = some (.int .u64 0) := (hb3.cell (p := ⟨wz.heap.size, 1, none⟩) hPl).trans p1; have r2 : z3.cell? ⟨wz.heap.size, 2, none⟩ = some (.int .u64 0) := (hb3.cell (p := ⟨wz.heap.size, 2, none⟩) hPl).trans p2; have r3 : z3.cell? ⟨wz.heap.size, 3, none⟩ = some (.int .u8 0) := (hb3.cell (p := ⟨wz.heap.size, 3, none⟩) hPl).trans p3; have r4 : z3.cell? ⟨wz.heap.size, 4, none⟩ = some (.string ⟨#[]⟩) := (hb3.cell (p := ⟨wz.heap.size, 4, none⟩) hPl).trans p4; have r5 : z3.cell? ⟨wz.heap.size, 5, none⟩ = some (.string ⟨#[]⟩) := (hb3.cell (p := ⟨wz.heap.size, 5, none⟩) hPl).trans p5; have k3 : Kept (fun _ => False) Z z3 := (Kept.refl _ Z).drew.trans (Kept.of_below (M := fun _ => False) hb3) (fun _ _ x => x); have K3 : Hid (Kept (fun _ => False) Z z3) := k3; clear hb3 k3)
                all_goals clear p0 p1 p2 p3 p4 p5
                all_goals go_wp2
                all_goals exact ⟨⟨i + 1, by omega, by go_num, by congr 1; omega, HTZ2.out.of0 K3.out, HRZ2.out.kept K3.out (fun x => x), HKZ2.out.and K3.out.wide⟩, by simp [intOf]; omega⟩
            · obtain rfl : i = 8 := by omega
              have hcc : cc = cv := by omega
              have rf := HRZ.out.finds
              have rp := HRZ.out.preds
              have hrl := HRZ.out.lt
              have e8 := w64m cv (by omega)
              rw [hcc] at rf
              obtain ⟨fd, hfd⟩ : ∃ fd : Int, ((8 - cv : Nat) : Int) = fd := ⟨_, rfl⟩
              rw [hfd] at rf e8
              clear hcv hcc hfd hc8
              go_wp2
              go_ret
              exact ⟨rfl, HBW.out.trans ((Kept.below HKZ.out hsW (fun k a b => Nat.not_le.2 a b)).mono (by omega))⟩

end Go.Proofs.Ybulkcmvc
