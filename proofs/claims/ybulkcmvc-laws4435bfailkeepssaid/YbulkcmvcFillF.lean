import Derived.Test.YbulkcmvcSucc
import Derived.WalkKit
import Derived.WalkSpells
import Derived.BigRegion
import Derived.BigQuiet
import Derived.Deep.QuietTactic
import Derived.Deep.RegionHeld3
import Derived.Deep.RegionWith
import Derived.Deep.CutRange
import Derived.Handy
namespace Go.Proofs.Ybulkcmvc
open Go.RowKit
/-- the successor list in memory, below the table. -/
def SV (w : World) (base s : Nat) (sv : Value) (E : List Nat) : Prop := ∃ a c, sv = .slice a E.length c ∧ (0 < E.length → ∃ G, a = some ⟨G, 0, none⟩ ∧ G < base ∧ ∀ k, k < E.length → ∀ j, j < 6 → w.cell? ⟨G, k * 6 + j, none⟩ = (pcells (some ((s + E.getD k 0) % 256)))[j]?)
theorem SV.keep {w w' : World} {base s : Nat} {sv : Value} {E : List Nat} (h : SV w base s sv E) (hb : base ≤ w.heap.size) (k : Kept (base ≤ ·) w w') : SV w' base s sv E := by
  obtain ⟨a, c, e, hc⟩ := h
  refine ⟨a, c, e, fun h0 => ?_⟩
  obtain ⟨G, e1, e2, e3⟩ := hc h0
  exact ⟨G, e1, e2, fun i hi j hj => (k.cell (p := ⟨G, i * 6 + j, none⟩) (by simp only; omega) (by simp only; omega)).trans (e3 i hi j hj)⟩
def Covered (h : Has) (s D i : Nat) : Prop := ∃ d, d ∈ ds h s D ∧ F h s i = (s + d) % 256
theorem ds_bound {h : Has} {s D : Nat} (hD : D ≤ 255) : (ds h s D).length < 256 := by
  have h1 := List.length_filter_le (fun d => h ((s + d) % 256)) (List.range' 1 D)
  simp only [List.length_range'] at h1
  unfold ds
  omega
theorem getD_mem {E : List Nat} {k : Nat} (hk : k < E.length) : E[k]? = some (E.getD k 0) := by rw [List.getD_eq_getElem?_getD, List.getElem?_eq_getElem hk]; rfl
def Ans (h : Has) (s D i : Nat) (x y : Int) (b : Bool) : Prop := (Covered h s D i ∧ x = F h s i ∧ y = 8 ∧ b = true) ∨ ((∀ d, d ∈ ds h s D → d < 2 ^ i) ∧ x = 0 ∧ y = 0 ∧ b = false)
def AnsE (h : Has) (s D i : Nat) (e : Ending) : Prop := ∃ x y b, Ans h s D i x y b ∧ e = .returned (.tuple #[.agg #[.int .u64 0, .int .u64 0, .int .u64 x, .int .u8 y, .string ⟨#[]⟩, .string ⟨#[]⟩], .bool b])
def Answers (h : Has) (s D i : Nat) (e : Ending) : Prop := (Covered h s D i ∧ e = .returned (.tuple #[peerV (F h s i), .bool true])) ∨ ((∀ d, d ∈ ds h s D → d < 2 ^ i) ∧ e = .returned (.tuple #[zeroPeer, .bool false]))
theorem succ_walk (base s i D : Nat) (sv : Value) (h : Has) (hs : s < 256) (hh : h s = true) (hi : i < 8) (hD : D ≤ 255) (w : World) (hb : base ≤ w.heap.size) (hS : SV w base s sv (ds h s D)) :
    Calls Yba.prog 33 #[viewV s sv, idV (((s + 2 ^ i) % 256 : Nat) : Int)] w fun e w' => Answers h s D i e ∧ Below w.heap.size w w' := by
  obtain ⟨a, c, rfl, hc⟩ := hS
  rcases Nat.eq_zero_or_pos (ds h s D).length with q | q
  · rw [q]
    refine (succ_none s _ a c w).mono ?_
    rintro e w' ⟨he, hb⟩
    refine ⟨.inr ⟨fun d hd => ?_, he⟩, hb⟩
    rw [List.length_eq_zero_iff.1 q] at hd
    cases hd
  · obtain ⟨G, rfl, e2, e3⟩ := hc q
    refine (succ_some s i G (ds h s D).length c (fun k => (ds h s D).getD k 0) hs hi (ds_bound hD) (fun k hk => ?_) w (by omega) e3).mono ?_
    · have := ds_mem.1 (List.mem_of_getElem? (getD_mem hk))
      omega
    rintro e w' ⟨⟨k, k1, k2, k3, he⟩ | ⟨k2, he⟩, hb⟩
    · have hF := ds_first hs hh hi hD (getD_mem k1) k2 k3
      refine ⟨.inl ⟨⟨_, List.mem_of_getElem? (getD_mem k1), hF⟩, ?_⟩, hb⟩
      rw [hF]
      exact he
    · refine ⟨.inr ⟨fun d hd => ?_, he⟩, hb⟩
      obtain ⟨j, hj⟩ := List.getElem?_of_mem hd
      have hjl : j < (ds h s D).length := (List.getElem?_eq_some_iff.1 hj).1
      have : (ds h s D).getD j 0 < 2 ^ i := k2 j hjl
      rw [List.getD_eq_getElem?_getD, hj] at this
      exact this
theorem Answers.ans {h : Has} {s D i : Nat} {e : Ending} (a : Answers h s D i e) : AnsE h s D i e := by
  rcases a with ⟨a, b⟩ | ⟨a, b⟩
  · exact ⟨_, _, _, .inl ⟨a, rfl, rfl, rfl⟩, b⟩
  · exact ⟨_, _, _, .inr ⟨a, rfl, rfl, rfl⟩, b⟩
theorem Kept.wide {base : Nat} {w w' : World} (h : Kept (fun _ => False) w w') : Kept (base ≤ ·) w w' := ⟨h.os, h.tape, h.output, h.size, fun k a _ => h.block k a (fun x => x)⟩
/-- a node in memory. -/
structure PeerAt (w : World) (B : Nat) (x y : Int) : Prop where
  lt : B < w.heap.size
  c0 : w.cell? ⟨B, 0, none⟩ = some (.int .u64 0)
  c1 : w.cell? ⟨B, 1, none⟩ = some (.int .u64 0)
  c2 : w.cell? ⟨B, 2, none⟩ = some (.int .u64 x)
  c3 : w.cell? ⟨B, 3, none⟩ = some (.int .u8 y)
  c4 : w.cell? ⟨B, 4, none⟩ = some (.string ⟨#[]⟩)
  c5 : w.cell? ⟨B, 5, none⟩ = some (.string ⟨#[]⟩)
theorem PeerAt.kept {M : Nat → Prop} {w w' : World} {B : Nat} {x y : Int} (p : PeerAt w B x y) (k : Kept M w w') (hM : ¬ M B) : PeerAt w' B x y :=
  ⟨Nat.lt_of_lt_of_le p.lt k.size, (k.cell (p := ⟨B, 0, none⟩) p.lt hM).trans p.c0, (k.cell (p := ⟨B, 1, none⟩) p.lt hM).trans p.c1, (k.cell (p := ⟨B, 2, none⟩) p.lt hM).trans p.c2, (k.cell (p := ⟨B, 3, none⟩) p.lt hM).trans p.c3, (k.cell (p := ⟨B, 4, none⟩) p.lt hM).trans p.c4, (k.cell (p := ⟨B, 5, none⟩) p.lt hM).trans p.c5⟩
def setPeer (w : World) (B : Nat) (x y : Int) : World := ((((((w.setCell ⟨B, 0, none⟩ (.int .u64 0)).setCell ⟨B, 1, none⟩ (.int .u64 0)).setCell ⟨B, 2, none⟩ (.int .u64 x)).setCell ⟨B, 3, none⟩ (.int .u8 y)).setCell ⟨B, 4, none⟩ (.string ⟨#[]⟩)).setCell ⟨B, 5, none⟩ (.string ⟨#[]⟩))
theorem peer_set {w : World} {B : Nat} {x0 y0 : Int} (x y : Int) (h : PeerAt w B x0 y0) : PeerAt (setPeer w B x y) B x y := by
  obtain ⟨h, h0, h1, h2, h3, h4, h5⟩ := h
  unfold setPeer
  refine ⟨by simpa [World.setCell] using h, ?_, ?_, ?_, ?_, ?_, ?_⟩ <;> simp [go_sem, h0, h1, h2, h3, h4, h5]
theorem peer_alloc (w : World) (x y : Int) (n : TypeId) : PeerAt (w.alloc (.cells #[.int .u64 0, .int .u64 0, .int .u64 x, .int .u8 y, .string ⟨#[]⟩, .string ⟨#[]⟩] n)) w.heap.size x y := by
  refine ⟨by simp, ?_, ?_, ?_, ?_, ?_, ?_⟩ <;> simp [go_sem]
theorem kept_set {M : Nat → Prop} {a w : World} {B : Nat} {x y : Int} (k : Kept M a w) (hB : a.heap.size ≤ B) : Kept M a (setPeer w B x y) := by
  have hB' : B < a.heap.size → M B := fun h => by omega
  exact (((((k.setCell (p := ⟨B, 0, none⟩) hB' _).setCell (p := ⟨B, 1, none⟩) hB' _).setCell (p := ⟨B, 2, none⟩) hB' _).setCell (p := ⟨B, 3, none⟩) hB' _).setCell (p := ⟨B, 4, none⟩) hB' _).setCell (p := ⟨B, 5, none⟩) hB' _
/-- behind successorFor. -/
def Sx (base T s : Nat) (l : Int) (h : Has) (full : Bool) (i D : Nat) (W : World) (p6 p7 : Value) (wx : World) : Prop := ∃ B x y b, p6 = .pointer (some ⟨B, 0, none⟩) ∧ p7 = .bool b ∧ Ans h s D i x y b ∧ PeerAt wx B x y ∧ TT wx base T s l h full i ∧ Keep base W wx
theorem Sx.of {base T s : Nat} {l : Int} {h : Has} {full : Bool} {i D : Nat} {W w1 X : World} {B : Nat} {x y : Int} {b : Bool} (hT : TT w1 base T s l h full i) (hK : Keep base W w1) (k : Kept (fun _ => False) w1 X) (hA : Ans h s D i x y b) (hP : PeerAt X B x y) : Sx base T s l h full i D W (.pointer (some ⟨B, 0, none⟩)) (.bool b) X :=
  ⟨B, x, y, b, rfl, rfl, hA, hP, hT.of0 k, hK.trans (Keep.of_none k)⟩
/-- where the fill from the successors stands. -/
def Mid (h : Has) (s D c : Nat) : Prop := c ≤ 8 ∧ (0 < c → ∃ d, d ∈ ds h s D ∧ 2 ^ (c - 1) ≤ d)
theorem Mid.next {h : Has} {s D i : Nat} (hs : s < 256) (hh : h s = true) (hi : i < 8) (hD : D ≤ 255) (hc : Covered h s D i) : Mid h s D (RR s (F h s i)) := by
  obtain ⟨d, hd, e⟩ := hc
  have g := RR_gt hs hh hi
  have g8 := RR_le s (F h s i)
  refine ⟨g8, fun _ => ⟨d, hd, ?_⟩⟩
  have m := ds_mem.1 hd
  have hF := (F_is hs hh hi).1
  have := (RR_iff (j := RR s (F h s i) - 1) hs hF (by omega)).1 (by omega)
  rw [e, dst_add hs m.1 (by omega)] at this
  rw [e]
  exact this
theorem Mid.stop {h : Has} {s D i : Nat} (m : Mid h s D i) (hi : i < 8 → ∀ d, d ∈ ds h s D → d < 2 ^ i) : Stop h s D i := ⟨m.1, hi, m.2⟩

set_option maxRecDepth 100000 in
set_option maxHeartbeats 8000000 in
theorem fsucc_walk (base T s D n c : Nat) (a : Option Addr) (l : Int) (h : Has) (full : Bool) (hs : s < 256) (hh : h s = true) (hD : D ≤ 255) (w : World) (hS : SV w base s (.slice a n c) (ds h s D)) (hT : TT w base T s l h full 0) :
    Calls Yba.prog 25 #[.pointer (some ⟨T, 0, none⟩), viewV s (.slice a n c)] w fun e w' => (∃ i : Nat, e = .returned (.int .i64 i) ∧ Stop h s D i ∧ TT w' base T s l h full i) ∧ Keep base w w' := by
  have hbw := hT.size
  have HS : Hid (SV w base s (.slice a n c) (ds h s D)) := hS
  have HT : Hid (TT w base T s l h full 0) := hT
  have HH : Hid (h s = true) := hh
  clear hS hT hh
  go_enter Yba.func25, Yba.ntmps25
  go_wp2
  generalize hW : w.alloc _ = W
  have hKW : Keep base w W := by rw [← hW]; exact Keep.of_none ((Kept.refl _ w).alloc _)
  have HTW : Hid (TT W base T s l h full 0) := by rw [← hW]; exact HT.out.alloc _
  have hV : W.heap[w.heap.size]? = some (.cells #[.int .u64 0, .int .u64 0, .int .u64 s, .int .u8 8, .string ⟨#[]⟩, .string ⟨#[]⟩, .slice none 0 0, .slice a n c, .slice none 0 0, .slice none 0 0, .bool false, .bool false] 44 (0, 0)) := by rw [← hW]; exact Array.getElem?_push_size
  have HV : Hid _ := hV
  have HK : Hid (Keep base w W) := hKW
  clear hW hV hKW
  go_loopw [5] (fun vi wr => ∃ i : Nat, vi = .int .i64 i ∧ Mid h s D i ∧ TT wr base T s l h full i ∧ Keep base W wr) (fun vi _ => 8 - (intOf vi).toNat)
  case atStart => exact ⟨0, rfl, ⟨by omega, fun h => by omega⟩, HTW.out, Keep.refl _ _⟩
  case round =>
    obtain ⟨i, rfl, hmid, htt, hk⟩ := hrel
    have hi8 := hmid.1
    have hv := hk.2.2 _ _ _ HV.out (by decide) (by decide) (by decide)
    have hS1 := HS.out.keep hbw (HK.out.trans hk).1
    have hbr := htt.size
    obtain ⟨nv, ev, hobj⟩ := htt.obj
    have t0 : wr.cell? ⟨T, 0, none⟩ = some (.int .u64 0) := by rw [cell_t hobj]; rfl
    have t1 : wr.cell? ⟨T, 1, none⟩ = some (.int .u64 0) := by rw [cell_t hobj]; rfl
    have t2 : wr.cell? ⟨T, 2, none⟩ = some (.int .u64 s) := by rw [cell_t hobj]; rfl
    have t3 : wr.cell? ⟨T, 3, none⟩ = some (.int .u8 8) := by rw [cell_t hobj]; rfl
    have hTl := lt_t hobj
    clear hobj
    have HTT : Hid (TT wr base T s l h full i) := htt
    have HKR : Hid (Keep base W wr) := hk
    have HS1 : Hid (SV wr base s (.slice a n c) (ds h s D)) := hS1
    have HM : Hid (Mid h s D i) := hmid
    have HVR : Hid _ := hv
    clear htt hk hS1 hmid hv
    by_cases hi : i < 8
    · have q1 : (i : Int) < 8 := by omega
      go_wp2_with fail
      refine (bits_walk s _).mono ?_
      rintro e w1 ⟨rfl, hb1⟩
      have hbw1 : base ≤ w1.heap.size := by have := hb1.size; omega
      have hT1 := HTT.out.below hb1
      have hS2 := HS1.out.keep hbr (Kept.of_below hb1)
      have HV1 : Hid _ := keep_t hb1 (lt_t HVR.out) HVR.out
      have HKR1 : Hid (Keep base W w1) := HKR.out.trans (Keep.of_below hb1)
      clear t0 t1 t2 t3
      obtain ⟨tg, htg⟩ : ∃ tg : Nat, (s + 2 ^ i) % 256 = tg := ⟨_, rfl⟩
      have v0 : w1.cell? ⟨w.heap.size, 0, none⟩ = some (.int .u64 0) := by rw [World.cell?_of_block (w := W) (HV1.out.trans HV.out.symm)]; exact (World.cell?_of_block rfl).trans (by simp [World.cell?, HV.out])
      have v1 : w1.cell? ⟨w.heap.size, 1, none⟩ = some (.int .u64 0) := by rw [World.cell?_of_block (w := W) (HV1.out.trans HV.out.symm)]; exact (World.cell?_of_block rfl).trans (by simp [World.cell?, HV.out])
      have v2 : w1.cell? ⟨w.heap.size, 2, none⟩ = some (.int .u64 s) := by rw [World.cell?_of_block (w := W) (HV1.out.trans HV.out.symm)]; exact (World.cell?_of_block rfl).trans (by simp [World.cell?, HV.out])
      have v3 : w1.cell? ⟨w.heap.size, 3, none⟩ = some (.int .u8 8) := by rw [World.cell?_of_block (w := W) (HV1.out.trans HV.out.symm)]; exact (World.cell?_of_block rfl).trans (by simp [World.cell?, HV.out])
      have v4 : w1.cell? ⟨w.heap.size, 4, none⟩ = some (.string ⟨#[]⟩) := by rw [World.cell?_of_block (w := W) (HV1.out.trans HV.out.symm)]; exact (World.cell?_of_block rfl).trans (by simp [World.cell?, HV.out])
      have v5 : w1.cell? ⟨w.heap.size, 5, none⟩ = some (.string ⟨#[]⟩) := by rw [World.cell?_of_block (w := W) (HV1.out.trans HV.out.symm)]; exact (World.cell?_of_block rfl).trans (by simp [World.cell?, HV.out])
      have v6 : w1.cell? ⟨w.heap.size, 6, none⟩ = some (.slice none 0 0) := by rw [World.cell?_of_block (w := W) (HV1.out.trans HV.out.symm)]; exact (World.cell?_of_block rfl).trans (by simp [World.cell?, HV.out])
      have v7 : w1.cell? ⟨w.heap.size, 7, none⟩ = some (.slice a n c) := by rw [World.cell?_of_block (w := W) (HV1.out.trans HV.out.symm)]; exact (World.cell?_of_block rfl).trans (by simp [World.cell?, HV.out])
      have v8 : w1.cell? ⟨w.heap.size, 8, none⟩ = some (.slice none 0 0) := by rw [World.cell?_of_block (w := W) (HV1.out.trans HV.out.symm)]; exact (World.cell?_of_block rfl).trans (by simp [World.cell?, HV.out])
      have v9 : w1.cell? ⟨w.heap.size, 9, none⟩ = some (.slice none 0 0) := by rw [World.cell?_of_block (w := W) (HV1.out.trans HV.out.symm)]; exact (World.cell?_of_block rfl).trans (by simp [World.cell?, HV.out])
      have v10 : w1.cell? ⟨w.heap.size, 10, none⟩ = some (.bool false) := by rw [World.cell?_of_block (w := W) (HV1.out.trans HV.out.symm)]; exact (World.cell?_of_block rfl).trans (by simp [World.cell?, HV.out])
      have v11 : w1.cell? ⟨w.heap.size, 11, none⟩ = some (.bool false) := by rw [World.cell?_of_block (w := W) (HV1.out.trans HV.out.symm)]; exact (World.cell?_of_block rfl).trans (by simp [World.cell?, HV.out])
      have HT1 : Hid (TT w1 base T s l h full i) := hT1
      have h34 := fun X (hX : Kept (fun _ => False) w1 X) => TT.target (i := i) hs hi (HT1.out.of0 hX)
      rw [htg] at h34
      have H34 : Hid _ := h34
      clear h34
      have HS2 : Hid (SV w1 base s (.slice a n c) (ds h s D)) := hS2
      have h33 := fun X (hX : Kept (fun _ => False) w1 X) => succ_walk base s i D (.slice a n c) h hs HH.out hi hD X (by have := hX.size; omega) (HS2.out.keep hbw1 hX.wide)
      rw [htg] at h33
      have H33 : Hid _ := h33
      clear h33
      clear hT1 hS2 hb1
      have qv : w.heap.size < w1.heap.size := lt_t HV1.out
      go_upto_region 3 with fail
      go_cut [6, 7] from 9 to 38 (fun p6 p7 wx => Sx base T s l h full i D W p6 p7 wx)
      case first =>
        go_region_with (first
          | (go_at_call 34; refine Calls.mono (H34.out _ ((Kept.refl _ w1).drew)) ?_; rintro e w2 ⟨rfl, hb2⟩; have k2 : Kept (fun _ => False) w1 w2 := (Kept.refl _ w1).drew.trans (Kept.of_below (M := fun _ => False) hb2) (fun _ _ x => x); have z0 : w2.cell? ⟨w.heap.size, 0, none⟩ = some (.int .u64 0) := (k2.cell (p := ⟨w.heap.size, 0, none⟩) qv (fun x => x)).trans v0; have z1 : w2.cell? ⟨w.heap.size, 1, none⟩ = some (.int .u64 0) := (k2.cell (p := ⟨w.heap.size, 1, none⟩) qv (fun x => x)).trans v1; have z2 : w2.cell? ⟨w.heap.size, 2, none⟩ = some (.int .u64 s) := (k2.cell (p := ⟨w.heap.size, 2, none⟩) qv (fun x => x)).trans v2; have z3 : w2.cell? ⟨w.heap.size, 3, none⟩ = some (.int .u8 8) := (k2.cell (p := ⟨w.heap.size, 3, none⟩) qv (fun x => x)).trans v3; have z4 : w2.cell? ⟨w.heap.size, 4, none⟩ = some (.string ⟨#[]⟩) := (k2.cell (p := ⟨w.heap.size, 4, none⟩) qv (fun x => x)).trans v4; have z5 : w2.cell? ⟨w.heap.size, 5, none⟩ = some (.string ⟨#[]⟩) := (k2.cell (p := ⟨w.heap.size, 5, none⟩) qv (fun x => x)).trans v5; have z6 : w2.cell? ⟨w.heap.size, 6, none⟩ = some (.slice none 0 0) := (k2.cell (p := ⟨w.heap.size, 6, none⟩) qv (fun x => x)).trans v6; have z7 : w2.cell? ⟨w.heap.size, 7, none⟩ = some (.slice a n c) := (k2.cell (p := ⟨w.heap.size, 7, none⟩) qv (fun x => x)).trans v7; have z8 : w2.cell? ⟨w.heap.size, 8, none⟩ = some (.slice none 0 0) := (k2.cell (p := ⟨w.heap.size, 8, none⟩) qv (fun x => x)).trans v8; have z9 : w2.cell? ⟨w.heap.size, 9, none⟩ = some (.slice none 0 0) := (k2.cell (p := ⟨w.heap.size, 9, none⟩) qv (fun x => x)).trans v9; have z10 : w2.cell? ⟨w.heap.size, 10, none⟩ = some (.bool false) := (k2.cell (p := ⟨w.heap.size, 10, none⟩) qv (fun x => x)).trans v10; have z11 : w2.cell? ⟨w.heap.size, 11, none⟩ = some (.bool false) := (k2.cell (p := ⟨w.heap.size, 11, none⟩) qv (fun x => x)).trans v11;  have qz : w.heap.size < w2.heap.size := Nat.lt_of_lt_of_le qv k2.size; have K2 : Hid (Kept (fun _ => False) w1 w2) := k2; have q2 : w1.heap.size ≤ w2.heap.size := k2.size; clear hb2 k2)
          | (go_at_call 34; refine Calls.mono (H34.out _ (((Kept.refl _ w1).drew).alloc _)) ?_; rintro e w2 ⟨rfl, hb2⟩; have k2 : Kept (fun _ => False) w1 w2 := ((Kept.refl _ w1).drew.alloc _).trans (Kept.of_below (M := fun _ => False) hb2) (fun _ _ x => x); have z0 : w2.cell? ⟨w.heap.size, 0, none⟩ = some (.int .u64 0) := (k2.cell (p := ⟨w.heap.size, 0, none⟩) qv (fun x => x)).trans v0; have z1 : w2.cell? ⟨w.heap.size, 1, none⟩ = some (.int .u64 0) := (k2.cell (p := ⟨w.heap.size, 1, none⟩) qv (fun x => x)).trans v1; have z2 : w2.cell? ⟨w.heap.size, 2, none⟩ = some (.int .u64 s) := (k2.cell (p := ⟨w.heap.size, 2, none⟩) qv (fun x => x)).trans v2; have z3 : w2.cell? ⟨w.heap.size, 3, none⟩ = some (.int .u8 8) := (k2.cell (p := ⟨w.heap.size, 3, none⟩) qv (fun x => x)).trans v3; have z4 : w2.cell? ⟨w.heap.size, 4, none⟩ = some (.string ⟨#[]⟩) := (k2.cell (p := ⟨w.heap.size, 4, none⟩) qv (fun x => x)).trans v4; have z5 : w2.cell? ⟨w.heap.size, 5, none⟩ = some (.string ⟨#[]⟩) := (k2.cell (p := ⟨w.heap.size, 5, none⟩) qv (fun x => x)).trans v5; have z6 : w2.cell? ⟨w.heap.size, 6, none⟩ = some (.slice none 0 0) := (k2.cell (p := ⟨w.heap.size, 6, none⟩) qv (fun x => x)).trans v6; have z7 : w2.cell? ⟨w.heap.size, 7, none⟩ = some (.slice a n c) := (k2.cell (p := ⟨w.heap.size, 7, none⟩) qv (fun x => x)).trans v7; have z8 : w2.cell? ⟨w.heap.size, 8, none⟩ = some (.slice none 0 0) := (k2.cell (p := ⟨w.heap.size, 8, none⟩) qv (fun x => x)).trans v8; have z9 : w2.cell? ⟨w.heap.size, 9, none⟩ = some (.slice none 0 0) := (k2.cell (p := ⟨w.heap.size, 9, none⟩) qv (fun x => x)).trans v9; have z10 : w2.cell? ⟨w.heap.size, 10, none⟩ = some (.bool false) := (k2.cell (p := ⟨w.heap.size, 10, none⟩) qv (fun x => x)).trans v10; have z11 : w2.cell? ⟨w.heap.size, 11, none⟩ = some (.bool false) := (k2.cell (p := ⟨w.heap.size, 11, none⟩) qv (fun x => x)).trans v11;  have qz : w.heap.size < w2.heap.size := Nat.lt_of_lt_of_le qv k2.size; have K2 : Hid (Kept (fun _ => False) w1 w2) := k2; have qn : w1.heap.size < w2.heap.size := Nat.lt_of_lt_of_le (by simp) hb2.size; have n0 : w2.cell? ⟨w1.heap.size, 0, none⟩ = some (.int .u64 0) := (hb2.cell (p := ⟨w1.heap.size, 0, none⟩) (by simp)).trans (by simp [go_sem]); have n1 : w2.cell? ⟨w1.heap.size, 1, none⟩ = some (.int .u64 0) := (hb2.cell (p := ⟨w1.heap.size, 1, none⟩) (by simp)).trans (by simp [go_sem]); have n2 : w2.cell? ⟨w1.heap.size, 2, none⟩ = some (.int .u64 0) := (hb2.cell (p := ⟨w1.heap.size, 2, none⟩) (by simp)).trans (by simp [go_sem]); have n3 : w2.cell? ⟨w1.heap.size, 3, none⟩ = some (.int .u8 0) := (hb2.cell (p := ⟨w1.heap.size, 3, none⟩) (by simp)).trans (by simp [go_sem]); have n4 : w2.cell? ⟨w1.heap.size, 4, none⟩ = some (.string ⟨#[]⟩) := (hb2.cell (p := ⟨w1.heap.size, 4, none⟩) (by simp)).trans (by simp [go_sem]); have n5 : w2.cell? ⟨w1.heap.size, 5, none⟩ = some (.string ⟨#[]⟩) := (hb2.cell (p := ⟨w1.heap.size, 5, none⟩) (by simp)).trans (by simp [go_sem]);  have nf : ∀ o, w2.frozen? ⟨w1.heap.size, o, none⟩ = false := (fun o => (hb2.frozen (p := ⟨w1.heap.size, o, none⟩) (by simp)).trans (by simp [go_sem])); clear hb2 k2)
          | (go_at_call 33; refine Calls.mono (H33.out _ K2.out) ?_; rintro e w3 ⟨ha, hb3⟩; obtain ⟨x, y, b, ha2, rfl⟩ := ha.ans; have m0 : w3.cell? ⟨w1.heap.size, 0, none⟩ = some (.int .u64 0) := (hb3.cell (p := ⟨w1.heap.size, 0, none⟩) qn).trans n0; have m1 : w3.cell? ⟨w1.heap.size, 1, none⟩ = some (.int .u64 0) := (hb3.cell (p := ⟨w1.heap.size, 1, none⟩) qn).trans n1; have m2 : w3.cell? ⟨w1.heap.size, 2, none⟩ = some (.int .u64 0) := (hb3.cell (p := ⟨w1.heap.size, 2, none⟩) qn).trans n2; have m3 : w3.cell? ⟨w1.heap.size, 3, none⟩ = some (.int .u8 0) := (hb3.cell (p := ⟨w1.heap.size, 3, none⟩) qn).trans n3; have m4 : w3.cell? ⟨w1.heap.size, 4, none⟩ = some (.string ⟨#[]⟩) := (hb3.cell (p := ⟨w1.heap.size, 4, none⟩) qn).trans n4; have m5 : w3.cell? ⟨w1.heap.size, 5, none⟩ = some (.string ⟨#[]⟩) := (hb3.cell (p := ⟨w1.heap.size, 5, none⟩) qn).trans n5;  have mf : ∀ o, w3.frozen? ⟨w1.heap.size, o, none⟩ = false := (fun o => (hb3.frozen (p := ⟨w1.heap.size, o, none⟩) qn).trans (nf o)); have K3c : Hid (Kept (fun _ => False) w1 w3) := K2.out.trans (Kept.of_below (M := fun _ => False) hb3) (fun _ _ x => x); have q3 : w1.heap.size < w3.heap.size := Nat.lt_of_lt_of_le qn hb3.size; have HA : Hid (Ans h s D i x y b) := ha2; clear hb3 ha ha2)
          | (go_at_call 33; refine Calls.mono (H33.out _ K2.out) ?_; rintro e w3 ⟨ha, hb3⟩; obtain ⟨x, y, b, ha2, rfl⟩ := ha.ans; have K3a : Hid (Kept (fun _ => False) w1 w3) := K2.out.trans (Kept.of_below (M := fun _ => False) hb3) (fun _ _ x => x); have HA : Hid (Ans h s D i x y b) := ha2; clear hb3 ha ha2)
          | (go_at_call 33; refine Calls.mono (H33.out _ (K2.out.alloc _)) ?_; rintro e w3 ⟨ha, hb3⟩; obtain ⟨x, y, b, ha2, rfl⟩ := ha.ans; have m0 : w3.cell? ⟨w2.heap.size, 0, none⟩ = some (.int .u64 0) := (hb3.cell (p := ⟨w2.heap.size, 0, none⟩) (by simp)).trans (by simp [go_sem]); have m1 : w3.cell? ⟨w2.heap.size, 1, none⟩ = some (.int .u64 0) := (hb3.cell (p := ⟨w2.heap.size, 1, none⟩) (by simp)).trans (by simp [go_sem]); have m2 : w3.cell? ⟨w2.heap.size, 2, none⟩ = some (.int .u64 0) := (hb3.cell (p := ⟨w2.heap.size, 2, none⟩) (by simp)).trans (by simp [go_sem]); have m3 : w3.cell? ⟨w2.heap.size, 3, none⟩ = some (.int .u8 0) := (hb3.cell (p := ⟨w2.heap.size, 3, none⟩) (by simp)).trans (by simp [go_sem]); have m4 : w3.cell? ⟨w2.heap.size, 4, none⟩ = some (.string ⟨#[]⟩) := (hb3.cell (p := ⟨w2.heap.size, 4, none⟩) (by simp)).trans (by simp [go_sem]); have m5 : w3.cell? ⟨w2.heap.size, 5, none⟩ = some (.string ⟨#[]⟩) := (hb3.cell (p := ⟨w2.heap.size, 5, none⟩) (by simp)).trans (by simp [go_sem]);  have mf : ∀ o, w3.frozen? ⟨w2.heap.size, o, none⟩ = false := (fun o => (hb3.frozen (p := ⟨w2.heap.size, o, none⟩) (by simp)).trans (by simp [go_sem])); have K3b : Hid (Kept (fun _ => False) w1 w3) := (K2.out.alloc _).trans (Kept.of_below (M := fun _ => False) hb3) (fun _ _ x => x); have q3 : w2.heap.size < w3.heap.size := Nat.lt_of_lt_of_le (by simp) hb3.size; have HA : Hid (Ans h s D i x y b) := ha2; clear hb3 ha ha2))
        all_goals (go_wp2_with fail; go_meet)
        all_goals first
          | (have k := K3a.out; exact Sx.of HT1.out HKR1.out (k.alloc _) HA.out (peer_alloc _ _ _ _))
          | (have k := K3b.out; exact Sx.of (X := setPeer w3 w2.heap.size x y) HT1.out HKR1.out (kept_set k q2) HA.out (peer_set x y ⟨q3, m0, m1, m2, m3, m4, m5⟩))
          | (have k := K3c.out; exact Sx.of (X := setPeer w3 w1.heap.size x y) HT1.out HKR1.out (kept_set k (Nat.le_refl _)) HA.out (peer_set x y ⟨q3, m0, m1, m2, m3, m4, m5⟩))
      case rest =>
        obtain ⟨B, x, y, b, rfl, rfl, hA, hP, hTc, hKc⟩ := hcut
        obtain ⟨hB, p0, p1, p2, p3, p4, p5⟩ := hP
        have HTC : Hid (TT wc base T s l h full i) := hTc
        have HKC : Hid (Keep base W wc) := hKc
        clear hTc hKc
        rcases hA with ⟨hc, rfl, rfl, rfl⟩ | ⟨hn, rfl, rfl, rfl⟩
        · have h28 := TT.reach hs HH.out hi HTC.out
          have hMn := Mid.next hs HH.out hi hD hc
          have hgt := RR_gt hs HH.out hi
          obtain ⟨f, hf⟩ : ∃ f, F h s i = f := ⟨_, rfl⟩
          have h29 := fun X (hX : TT X base T s l h full i) => TT.fill hs HH.out hi hX
          rw [hf] at h28 h29 hMn hgt p2
          obtain ⟨r, hr⟩ : ∃ r, RR s f = r := ⟨_, rfl⟩
          rw [hr] at h28 h29 hMn hgt
          have H28 : Hid _ := h28
          have H29 : Hid _ := h29
          have HMN : Hid (Mid h s D r) := hMn
          have hr8 := hMn.1
          clear h28 h29 hMn
          go_wp2_with fail
          refine Calls.mono H28.out ?_
          rintro e w4 ⟨rfl, hb4⟩
          have r0 : w4.cell? ⟨B, 0, none⟩ = some (.int .u64 0) := (hb4.cell (p := ⟨B, 0, none⟩) hB).trans p0
          have r1 : w4.cell? ⟨B, 1, none⟩ = some (.int .u64 0) := (hb4.cell (p := ⟨B, 1, none⟩) hB).trans p1
          have r2 : w4.cell? ⟨B, 2, none⟩ = some (.int .u64 f) := (hb4.cell (p := ⟨B, 2, none⟩) hB).trans p2
          have r3 : w4.cell? ⟨B, 3, none⟩ = some (.int .u8 8) := (hb4.cell (p := ⟨B, 3, none⟩) hB).trans p3
          have r4 : w4.cell? ⟨B, 4, none⟩ = some (.string ⟨#[]⟩) := (hb4.cell (p := ⟨B, 4, none⟩) hB).trans p4
          have r5 : w4.cell? ⟨B, 5, none⟩ = some (.string ⟨#[]⟩) := (hb4.cell (p := ⟨B, 5, none⟩) hB).trans p5
          have HT4 : Hid (TT w4 base T s l h full i) := HTC.out.below hb4
          have HK4 : Hid (Keep base W w4) := HKC.out.trans (Keep.of_below hb4)
          clear hb4 p0 p1 p2 p3 p4 p5
          go_wp2
          go_region_with (go_at_call 29; refine Calls.mono (H29.out _ HT4.out.drew) ?_; rintro e w5 ⟨rfl, hT5, hK5⟩; have HT5 : Hid (TT w5 base T s l h full r) := hT5; have HK5 : Hid (Keep base W w5) := HK4.out.trans ((Keep.of_none ((Kept.refl _ w4).drew)).trans hK5); clear hT5 hK5)
          all_goals go_wp2
          all_goals exact ⟨⟨r, rfl, HMN.out, HT5.out, HK5.out⟩, by simp [intOf]; omega⟩
        · have HN : Hid (∀ d, d ∈ ds h s D → d < 2 ^ i) := hn
          clear hn
          go_wp2
          refine bodyPost_ret (v := .int .i64 i) (by simp [results, Yba.results25, go_sem]) rfl ?_
          exact ⟨⟨i, rfl, HM.out.stop (fun _ => HN.out), HTC.out⟩, HK.out.trans HKC.out⟩
    · obtain rfl : i = 8 := by omega
      go_wp2_with fail
      refine (bits_walk s _).mono ?_
      rintro e w1 ⟨rfl, hb1⟩
      have HB1 : Hid _ := hb1
      clear hb1
      go_wp2
      refine bodyPost_ret (v := .int .i64 8) (by simp [results, Yba.results25, go_sem]) rfl ?_
      exact ⟨⟨8, rfl, HM.out.stop (fun h => absurd h (by omega)), HTT.out.below HB1.out⟩, HK.out.trans (HKR.out.trans (Keep.of_below HB1.out))⟩
end Go.Proofs.Ybulkcmvc
