import Derived.Test.YbulkcmvcNewT
import Derived.Test.YbulkcmvcSuccs
import Derived.Test.YbulkcmvcLook
import Derived.Test.YbulkcmvcRingN
import Derived.Deep.MidRow
import Derived.WalkKit
import Derived.WalkSpells
import Derived.BigRegion
import Derived.BigQuiet
import Derived.Deep.QuietTactic
import Derived.Deep.RegionWith
import Derived.Deep.CutRange
import Derived.Handy
namespace Go.Proofs.Ybulkcmvc
open Go.RowKit
/-- the marks of the nodes in memory. -/
def HasAt (X : World) (B : Nat) (h : Has) : Prop := ∃ cs : Array Value, X.heap[B]? = some (.cells cs 31 (0, 0)) ∧ cs.size = 256 ∧ ∀ k, k < 256 → cs[k]? = some (.bool (h k))
theorem zero31 : Yba.zeroCells31 = Array.replicate 256 (.bool false) := by kernel_rfl
theorem HasAt.lt {X : World} {B : Nat} {h : Has} (g : HasAt X B h) : B < X.heap.size := by
  obtain ⟨cs, g, _⟩ := g
  exact lt_t g
theorem HasAt.cell {X : World} {B : Nat} {h : Has} (g : HasAt X B h) (k : Nat) (hk : k < 256) : X.cell? ⟨B, k, none⟩ = some (.bool (h k)) := by
  obtain ⟨cs, g, _, c⟩ := g
  simp [World.cell?, g, c k hk]
theorem HasAt.free {X : World} {B : Nat} {h : Has} (g : HasAt X B h) (k : Nat) : X.frozen? ⟨B, k, none⟩ = false := by
  obtain ⟨cs, g, _, c⟩ := g
  simp [World.frozen?, g]
theorem HasAt.kept {M : Nat → Prop} {X X' : World} {B : Nat} {h : Has} (g : HasAt X B h) (k : Kept M X X') (hM : ¬ M B) : HasAt X' B h := by
  have hl := g.lt
  obtain ⟨cs, g, a, c⟩ := g
  exact ⟨cs, (k.block B hl hM).trans g, a, c⟩
theorem HasAt.set {X : World} {B v : Nat} {h : Has} (g : HasAt X B h) : HasAt (X.setCell ⟨B, v, none⟩ (.bool true)) B (fun k => if k = v then true else h k) := by
  obtain ⟨cs, g, a, c⟩ := g
  refine ⟨cs.setIfInBounds v (.bool true), heap_set g, by simp [a], fun k hk => ?_⟩
  rw [Array.getElem?_setIfInBounds]
  by_cases e : v = k
  · subst e; simp [a, hk]
  · have e' : ¬ k = v := fun x => e x.symm
    simp only [e, e', if_false]
    exact c k hk
theorem has_first (w : World) (v : Nat) : HasAt (w.alloc (.cells (Yba.zeroCells31.setIfInBounds v (.bool true)) 31)) w.heap.size (fun k => if k = v then true else false) := by
  refine ⟨_, heap_alloc_new _ _, by rw [zero31]; simp, fun k hk => ?_⟩
  rw [zero31, Array.getElem?_setIfInBounds]
  by_cases e : v = k
  · subst e; simp [hk]
  · have e' : ¬ k = v := fun x => e x.symm
    simp [e, e', hk]
/-- the table between the rounds. -/
def TTx (w : World) (base T s : Nat) (h : Has) (j : Nat) : Prop := if j = 0 then TT w base T s 0 h false 0 else TT w base T s 0 h true 0
/-- the runs keep their invariant. -/
theorem TT.bruns {w : World} {base T s : Nat} {l : Int} {h : Has} (hs : s < 256) (hh : h s = true) (t : TT w base T s l h true 0) :
    Calls Yba.prog 15 #[.pointer (some ⟨T, 13, none⟩)] w fun e w' => e = .returned (.bool true) ∧ Kept (fun _ => False) w w' := by
  obtain ⟨L, ⟨h1, h2, h3, g1, c1, g2, c2, hF⟩, b⟩ := t
  obtain ⟨L0, c0, hc⟩ := b
  simp only [if_true] at hc
  obtain ⟨rest, e, c⟩ := hc
  have he := c.ends hs hh
  have hn := c.nodes hs hh
  exact bruns_walk base T g1 c1 g2 c2 s l L h2 h3 he.2.2 hn.2.1 (he.2.1 h2) w hF
/-- finger i, read out of the runs. -/
theorem TT.bat {w : World} {base T s i : Nat} {l : Int} {h : Has} (hs : s < 256) (hh : h s = true) (hi : i < 8) (t : TT w base T s l h true 0) :
    Calls Yba.prog 17 #[.pointer (some ⟨T, 13, none⟩), .int .i64 i] w fun e w' => e = .returned (peerV (F h s i)) ∧ Below w.heap.size w w' := by
  obtain ⟨L, ⟨h1, h2, h3, g1, c1, g2, c2, hF⟩, b⟩ := t
  obtain ⟨L0, c0, hc⟩ := b
  simp only [if_true] at hc
  obtain ⟨rest, e, c⟩ := hc
  obtain ⟨k, k1, k2, k3, k4⟩ := c.at hs hh i hi
  refine bat_walk base T g1 c1 g2 c2 i k (some (F h s i)) s l L h3 (c.ends hs hh).1 hi ⟨k1, k2, fun j hj hj2 => ?_, k4⟩ w hF
  have := c.mono hs hh (j - k) k (by omega)
  rw [show k + (j - k) = j by omega] at this
  omega
theorem refresh_x (base T r s D n c0 j : Nat) (a : Option Addr) (h : Has) (rng : Value) (hs : s < 256) (hh : h s = true) (hD : D ≤ 255) (hbr : base ≤ r) (w : World) (hS : SV w base s (.slice a n c0) (ds h s D)) (hT : TTx w base T s h j) (hR : RingEx w r h false) :
    Calls Yba.prog 13 #[.pointer (some ⟨T, 0, none⟩), bgV, viewV s (.slice a n c0), .iface 47 (.pointer (some ⟨r, 0, none⟩)), rng] w fun e w' => e = .returned (.tuple #[]) ∧ TT w' base T s 0 h true 0 ∧ RingEx w' r h false ∧ Kept (base ≤ ·) w w' := by
  unfold TTx at hT
  split at hT
  all_goals
    refine Calls.mono (refresh_ok base T r s D n c0 a h _ rng hs hh hD hbr w hS hT hR) ?_
    rintro e w' ⟨he, ⟨L, hTab, hTb⟩, hr, hk⟩
    exact ⟨he, ⟨L, hTab, Tb.again hTb.done⟩, hr, hk⟩
theorem TTx.drew {w : World} {base T s : Nat} {h : Has} {j : Nat} (t : TTx w base T s h j) : TTx w.drew base T s h j := by
  unfold TTx at t ⊢
  by_cases e : j = 0
  · simp only [e, if_true] at t ⊢
    exact t.drew
  · simp only [e, if_false] at t ⊢
    exact t.drew
theorem RingEx.drew {w : World} {r : Nat} {h : Has} {fl : Bool} (x : RingEx w r h fl) : RingEx w.drew r h fl := x.keep (Keep.of_none (base := 0) ((Kept.refl _ w).drew))
theorem sv_of {w : World} {b base s n c : Nat} {a : Option Addr} {E : List Nat} (h : w.ownsRow b 38 6 (.slice a n c) n (srow s E)) (hn : E.length = n) (hb : ∀ g, a = some g → g.block < base) : SV w base s (.slice a n c) E := by
  subst hn
  refine ⟨a, c, rfl, fun h0 => ?_⟩
  obtain ⟨g, cap, e⟩ := own_some h h0
  injection e with e1 e2 e3
  subst e1 e3
  refine ⟨g, rfl, hb _ rfl, fun k hk j hj => ?_⟩
  rw [own_cells h (k * 6 + j) (by omega)]
  unfold srow
  have := flat_at (E.map fun d => (some ((s + d) % 256), 0)) k (by simpa using hk) j hj
  rw [this]
  simp [List.getD_eq_getElem?_getD, List.getElem?_eq_getElem hk]
theorem own_lt {w : World} {base : Nat} {e : TypeId} {size : Nat} {g : Addr} {n c : Nat} {xs : List Value} (h : w.ownsRow base e size (.slice (some g) n c) n xs) : g.block < w.heap.size := by
  obtain ⟨_, h | ⟨g', cap, cur, h, hb, hg, _⟩⟩ := h
  · obtain ⟨h, _⟩ := h
    cases h
  · injection h with h1
    injection h1 with h1
    subst h1
    exact lt_t hg

set_option maxRecDepth 100000 in
set_option maxHeartbeats 8000000 in
theorem law5 (s : Nat) (hs : s < 256) (a1 : Option Addr) (len1 cap1 : Nat) (a2 : Nat) (h2 : a2 < 256) (w : World) (hrow : ∀ i, i < len1 → ∃ (x : Addr) (v : Nat), v < 256 ∧ a1 = some x ∧ w.cell? (x.add i) = some (.int .u8 v)) (hl : len1 ≤ maxLen) :
    Calls Yba.prog 5 #[.int .u8 s, .slice a1 len1 cap1, .int .u8 a2] w fun e w' => e = .returned (.bool true) ∧ Below w.heap.size w w' := by
  have q0 : (s : Int) < 256 := by omega
  have HROW : Hid (∀ i, i < len1 → ∃ (x : Addr) (v : Nat), v < 256 ∧ a1 = some x ∧ w.cell? (x.add i) = some (.int .u8 v)) := hrow
  have HL : Hid (len1 ≤ maxLen) := hl
  clear hrow hl
  go_enter Yba.func5, Yba.ntmps5
  go_wp2
  go_loopw [21] (fun vi wr => ∃ (i : Nat) (h : Has), i ≤ len1 ∧ vi = .int .i64 i ∧ h s = true ∧ HasAt wr w.heap.size h ∧ Below w.heap.size w wr) (fun vi _ => len1 - (intOf vi).toNat)
  case atStart => exact ⟨0, _, by omega, rfl, by simp, has_first w s, (Below.refl _ _).alloc (Nat.le_refl _) _⟩
  case round =>
    obtain ⟨i, h, hi, rfl, hh, hhas, hbel⟩ := hrel
    by_cases hi2 : i < len1
    · have q1 : (i : Int) < (len1 : Int) := by omega
      obtain ⟨x, v, hv, rfl, hcx⟩ := HROW.out i hi2
      have hxl : (x.add i).block < w.heap.size := World.block_lt_of_cell? w _ hcx
      have cx : wr.cell? (x.add i) = some (.int .u8 v) := (hbel.cell hxl).trans hcx
      have cv := hhas.cell v hv
      have fv := hhas.free v
      have qv : (v : Int) < 256 := by omega
      have e2 : IntKind.i64.wrap ((i : Int) + 1) = (i : Int) + 1 := by
        have := HL.out
        unfold maxLen at this
        rw [IntKind.wrap_i64]; omega
      have HHS : Hid (HasAt wr w.heap.size h) := hhas
      have HB : Hid (Below w.heap.size w wr) := hbel
      clear hhas hbel hcx
      go_wp2
      exact ⟨⟨i + 1, _, by omega, by go_num, by simp [hh], HHS.out.set, HB.out.setCell (Nat.le_refl _) _⟩, by simp [intOf]; omega⟩
    · obtain rfl : i = len1 := by omega
      have hlt := hhas.lt
      have HHS : Hid (HasAt wr w.heap.size h) := hhas
      have HB : Hid (Below w.heap.size w wr) := hbel
      have HH : Hid (h s = true) := hh
      clear hhas hbel hh
      go_wp2_with fail
      refine Calls.mono (bsuccs_walk w.heap.size s a2 h hs h2 _ (fun k hk => HHS.out.cell k hk) hlt) ?_
      rintro e w1 ⟨⟨D, sv, hD, rfl, hown⟩, hb1⟩
      obtain ⟨a, c, rfl⟩ := own_shape hown
      obtain ⟨n, hn⟩ : ∃ n, (ds h s D).length = n := ⟨_, rfl⟩
      rw [hn] at hown ⊢
      have HO1 : Hid (w1.ownsRow wr.heap.size 38 6 (.slice a n c) n (srow s (ds h s D))) := hown
      have HN : Hid ((ds h s D).length = n) := hn
      have HB1 : Hid (Below w.heap.size w w1) := HB.out.trans (hb1.mono HB.out.size)
      have HH1 : Hid (HasAt w1 w.heap.size h) := HHS.out.kept (M := fun _ => False) (Kept.of_below hb1) (fun x => x)
      have hs1 : wr.heap.size ≤ w1.heap.size := hb1.size
      clear hown hb1 hn
      go_wp2_with fail
      refine (bpeer_walk s _ (by omega) (by omega)).mono ?_
      rintro e w2 ⟨rfl, hb2⟩
      have k2 : Kept (fun _ => False) w1 w2 := Kept.of_below hb2
      have hs2 : w1.heap.size ≤ w2.heap.size := hb2.size
      clear hb2
      go_wp2_with fail
      refine (bpeer_walk s _ (by omega) (by omega)).mono ?_
      rintro e w3 ⟨rfl, hb3⟩
      have k3 : Kept (fun _ => False) w1 w3 := (k2.alloc _).trans (Kept.of_below (M := fun _ => False) hb3) (fun _ _ x => x)
      have hV3 : w3.heap[w2.heap.size]? = some (.cells #[.int .u64 0, .int .u64 0, .int .u64 s, .int .u8 8, .string ⟨#[]⟩, .string ⟨#[]⟩, .slice none 0 0, .slice a n c, .slice none 0 0, .slice none 0 0, .bool false, .bool false] 44 (0, 0)) := keep_t hb3 (by simp) (heap_alloc_new _ _)
      have HV3 : Hid _ := hV3
      have K3 : Hid (Kept (fun _ => False) w1 w3) := k3
      have hs3 : w2.heap.size < w3.heap.size := lt_t hV3
      clear hb3 hV3 k2 k3
      go_wp2_with fail
      refine (newtab_walk s h _).mono ?_
      rintro e w4 ⟨⟨T, rfl, hT4⟩, hb4⟩
      have hV4 := keep_t hb4 hs3 HV3.out
      have k4 : Kept (fun _ => False) w1 w4 := K3.out.trans (Kept.of_below (M := fun _ => False) hb4) (fun _ _ x => x)
      have HV4 : Hid (w4.heap[w2.heap.size]? = some (.cells #[.int .u64 0, .int .u64 0, .int .u64 s, .int .u8 8, .string ⟨#[]⟩, .string ⟨#[]⟩, .slice none 0 0, .slice a n c, .slice none 0 0, .slice none 0 0, .bool false, .bool false] 44 (0, 0))) := hV4
      have HT4 : Hid (TT w4 w3.heap.size T s 0 h false 0) := hT4
      have HB4 : Hid (Below w.heap.size w w4) := HB1.out.trans ((Kept.below k4 (Nat.le_refl _) (fun _ _ x => x)).mono (by have := HB1.out.size; omega))
      have HH4 : Hid (HasAt w4 w.heap.size h) := HH1.out.kept k4 (fun x => x)
      have HO4 : Hid (w4.ownsRow wr.heap.size 38 6 (.slice a n c) n (srow s (ds h s D))) := own_kept HO1.out k4 (fun _ _ x => x)
      have hl1 : w.heap.size < w1.heap.size := HH1.out.lt
      have hs4 : w3.heap.size ≤ w4.heap.size := hb4.size
      have hob : ∀ g, a = some g → g.block < w3.heap.size := by
        intro g hg
        subst hg
        have hob := own_lt HO1.out
        omega
      clear hb4 hV4 hT4 k4
      obtain ⟨cs, hcs, hcz, hck⟩ := HH4.out
      have hrange : w4.rangeAt w.heap.size 0 cs.toList := fun j v hv => by
        simp only [Array.getElem?_toList] at hv
        simp [World.cell?, hcs, hv]
      have HRG : Hid _ := hrange
      have HCS : Hid _ := hcs
      have HCZ : Hid (cs.size = 256) := hcz
      have HCK : Hid _ := hck
      clear hrange hcs hck
      have i31 : Hid ((Yba.prog.info? 31).map (·.size) = some cs.toList.length) := by
        show (Yba.prog.info? 31).map (·.size) = some cs.toList.length
        rw [Array.length_toList, HCZ.out]
        kernel_rfl
      go_wp2_with (first | (refine wpList_load_mid rfl 31 _ rfl w.heap.size 0 rfl cs.toList _ HRG.out Yba.underlying31 rfl i31.out ?_) | fail)
      generalize hW5 : w4.alloc _ = W
      have kW : Kept (fun _ => False) w4 W := by rw [← hW5]; exact (Kept.refl _ w4).alloc _
      have hRW : Ring W w4.heap.size h false 0 0 := by rw [← hW5]; exact ring_new (heap_alloc_new _ _) HCZ.out HCK.out
      have HRW : Hid (RingEx W w4.heap.size h false) := ⟨_, _, hRW⟩
      have HVW : Hid (W.heap[w2.heap.size]? = some (.cells #[.int .u64 0, .int .u64 0, .int .u64 s, .int .u8 8, .string ⟨#[]⟩, .string ⟨#[]⟩, .slice none 0 0, .slice a n c, .slice none 0 0, .slice none 0 0, .bool false, .bool false] 44 (0, 0))) := (kW.block _ (by omega) (fun x => x)).trans HV4.out
      have HTW : Hid (TT W w3.heap.size T s 0 h false 0) := HT4.out.of0 kW
      have HBW : Hid (Below w.heap.size w W) := HB4.out.trans ((Kept.below kW (Nat.le_refl _) (fun _ _ x => x)).mono HB4.out.size)
      have HHW : Hid (HasAt W w.heap.size h) := HH4.out.kept kW (fun x => x)
      have hSW : SV W w3.heap.size s (.slice a n c) (ds h s D) := sv_of (own_kept HO4.out kW (fun _ _ x => x)) HN.out hob
      have HSW : Hid (SV W w3.heap.size s (.slice a n c) (ds h s D)) := hSW
      have hsW : w3.heap.size ≤ W.heap.size := by have := kW.size; omega
      clear hW5 kW hRW hSW hcz
      go_loopw [14] (fun vr wr => ∃ j : Nat, j ≤ 2 ∧ vr = .int .i64 j ∧ TTx wr w3.heap.size T s h j ∧ RingEx wr w4.heap.size h false ∧ Kept (w3.heap.size ≤ ·) W wr) (fun vr _ => 2 - (intOf vr).toNat)
      case atStart => exact ⟨0, by omega, rfl, HTW.out, HRW.out, Kept.refl _ _⟩
      case round =>
        obtain ⟨j, hj, rfl, htt, hrr, hkk⟩ := hrel
        obtain ⟨wx, rfl⟩ : ∃ x, x = wr := ⟨wr, rfl⟩
        have HTT : Hid (TTx wx w3.heap.size T s h j) := htt
        have HRR : Hid (RingEx wx w4.heap.size h false) := hrr
        have HKK : Hid (Kept (w3.heap.size ≤ ·) W wx) := hkk
        have hkz := hkk.size
        clear htt hrr hkk
        by_cases hj2 : j < 2
        · have q1 : (j : Int) < 2 := by omega
          have hVx : wx.heap[w2.heap.size]? = some (.cells #[.int .u64 0, .int .u64 0, .int .u64 s, .int .u8 8, .string ⟨#[]⟩, .string ⟨#[]⟩, .slice none 0 0, .slice a n c, .slice none 0 0, .slice none 0 0, .bool false, .bool false] 44 (0, 0)) := (HKK.out.block _ (by omega) (Nat.not_le.2 hs3)).trans HVW.out
          have v0 : wx.cell? ⟨w2.heap.size, 0, none⟩ = some (.int .u64 0) := by simp [World.cell?, hVx]
          have v1 : wx.cell? ⟨w2.heap.size, 1, none⟩ = some (.int .u64 0) := by simp [World.cell?, hVx]
          have v2 : wx.cell? ⟨w2.heap.size, 2, none⟩ = some (.int .u64 s) := by simp [World.cell?, hVx]
          have v3 : wx.cell? ⟨w2.heap.size, 3, none⟩ = some (.int .u8 8) := by simp [World.cell?, hVx]
          have v4 : wx.cell? ⟨w2.heap.size, 4, none⟩ = some (.string ⟨#[]⟩) := by simp [World.cell?, hVx]
          have v5 : wx.cell? ⟨w2.heap.size, 5, none⟩ = some (.string ⟨#[]⟩) := by simp [World.cell?, hVx]
          have v6 : wx.cell? ⟨w2.heap.size, 6, none⟩ = some (.slice none 0 0) := by simp [World.cell?, hVx]
          have v7 : wx.cell? ⟨w2.heap.size, 7, none⟩ = some (.slice a n c) := by simp [World.cell?, hVx]
          have v8 : wx.cell? ⟨w2.heap.size, 8, none⟩ = some (.slice none 0 0) := by simp [World.cell?, hVx]
          have v9 : wx.cell? ⟨w2.heap.size, 9, none⟩ = some (.slice none 0 0) := by simp [World.cell?, hVx]
          have v10 : wx.cell? ⟨w2.heap.size, 10, none⟩ = some (.bool false) := by simp [World.cell?, hVx]
          have v11 : wx.cell? ⟨w2.heap.size, 11, none⟩ = some (.bool false) := by simp [World.cell?, hVx]
          clear hVx
          have hSx := HSW.out.keep hsW HKK.out
          have href := refresh_x w3.heap.size T w4.heap.size s D n c j a h (.pointer none) hs HH.out hD hs4 wx.drew (hSx.keep (by omega) ((Kept.refl _ wx).drew)) (HTT.out.drew) (HRR.out.drew)
          have HREF : Hid _ := href
          clear href hSx
          go_upto_region 15 with fail
          go_cut [52] from 43 to 74 (fun v wy => v = .tuple #[] ∧ TT wy w3.heap.size T s 0 h true 0 ∧ RingEx wy w4.heap.size h false ∧ Kept (w3.heap.size ≤ ·) W wy)
          case first =>
            go_region_with (first
              | (go_at_call 14; refine (background_walk _).mono ?_; rintro e x1 ⟨rfl, rfl⟩)
              | (go_at_call 13; refine Calls.mono HREF.out ?_; rintro e x2 ⟨rfl, hT2, hR2, hK2⟩; have HT2 : Hid (TT x2 w3.heap.size T s 0 h true 0) := hT2; have HR2 : Hid (RingEx x2 w4.heap.size h false) := hR2; have HK2 : Hid (Kept (w3.heap.size ≤ ·) W x2) := HKK.out.and ((Kept.refl _ wx).drew.and hK2); clear hT2 hR2 hK2))
            all_goals (go_wp2_with fail; go_meet)
            all_goals exact ⟨rfl, HT2.out, HR2.out, HK2.out⟩
          case rest =>
            obtain ⟨rfl, hTc, hRc, hKc⟩ := hcut
            have HTC : Hid (TT wc w3.heap.size T s 0 h true 0) := hTc
            have HRC : Hid (RingEx wc w4.heap.size h false) := hRc
            have HKC : Hid (Kept (w3.heap.size ≤ ·) W wc) := hKc
            have hTlc : T < wc.heap.size := by obtain ⟨nv, ev, ho⟩ := hTc.obj; exact lt_t ho
            clear hTc hRc hKc v0 v1 v2 v3 v4 v5 v6 v7 v8 v9 v10 v11
            go_wp2_with fail
            refine Calls.mono (TT.bruns hs HH.out HTC.out) ?_
            rintro e y1 ⟨rfl, hk1⟩
            have HT1 : Hid (TT y1 w3.heap.size T s 0 h true 0) := HTC.out.of0 hk1
            have HR1 : Hid (RingEx y1 w4.heap.size h false) := HRC.out.keep (Keep.of_none (base := 0) hk1)
            have HK1 : Hid (Kept (w3.heap.size ≤ ·) W y1) := HKC.out.and hk1.wide
            clear hk1
            go_wp2
            go_loopw [15] (fun vi wr => ∃ i : Nat, i ≤ 8 ∧ vi = .int .i64 i ∧ TT wr w3.heap.size T s 0 h true 0 ∧ RingEx wr w4.heap.size h false ∧ Kept (w3.heap.size ≤ ·) W wr) (fun vi _ => 8 - (intOf vi).toNat)
            case atStart => exact ⟨0, by omega, rfl, HT1.out, HR1.out, HK1.out⟩
            case round =>
              obtain ⟨i, hi, rfl, htt, hrr, hkk⟩ := hrel
              obtain ⟨wz, rfl⟩ : ∃ x, x = wr := ⟨wr, rfl⟩
              have HTZ : Hid (TT wz w3.heap.size T s 0 h true 0) := htt
              have HRZ : Hid (RingEx wz w4.heap.size h false) := hrr
              have HKZ : Hid (Kept (w3.heap.size ≤ ·) W wz) := hkk
              have HHZ : Hid (HasAt wz w.heap.size h) := HHW.out.kept hkk (Nat.not_le.2 (by omega))
              have hTlz : T < wz.heap.size := by obtain ⟨nv, ev, ho⟩ := htt.obj; exact lt_t ho
              clear htt hrr hkk
              by_cases hi8 : i < 8
              · have q2 : (i : Int) < 8 := by omega
                have hbs : Calls Yba.prog 16 #[.pointer (some ⟨w.heap.size, 0, none⟩), .int .u8 (((s : Int) + 2 ^ i) % 256)] wz fun e w' => e = .returned (.int .u8 (F h s i)) ∧ w' = wz := by
                  have h0 := bsucc_walk h w.heap.size ((s + 2 ^ i) % 256) (Nat.mod_lt _ (by decide)) wz (fun k hk => HHZ.out.cell k hk)
                  have e0 : (((s + 2 ^ i) % 256 : Nat) : Int) = ((s : Int) + 2 ^ i) % 256 := by simp
                  rw [e0] at h0
                  exact h0
                have hbat := fun X (hX : TT X w3.heap.size T s 0 h true 0) => TT.bat hs HH.out hi8 hX
                have hf256 : F h s i < 256 := nxt_lt _ _
                obtain ⟨f, hf⟩ : ∃ f, F h s i = f := ⟨_, rfl⟩
                rw [hf] at hbs hbat hf256
                have HBS : Hid _ := hbs
                have HBAT : Hid _ := hbat
                clear hbs hbat hf
                go_wp2_with fail
                refine Calls.mono HBS.out ?_
                rintro e z1 ⟨rfl, rfl⟩
                go_wp2_with fail
                refine (bpeer_walk f _ (by omega) (by omega)).mono ?_
                rintro e z2 ⟨rfl, hb2⟩
                obtain ⟨Z, hZ⟩ : ∃ Z, Z = z2.alloc (.cells #[.int .u64 0, .int .u64 0, .int .u64 f, .int .u8 8, .string ⟨#[]⟩, .string ⟨#[]⟩] 38) := ⟨_, rfl⟩
                have kZ : Kept (fun _ => False) z1 Z := by rw [hZ]; exact (Kept.of_below (M := fun _ => False) hb2).alloc _
                have HPZ : Hid (PeerAt Z z2.heap.size f 8) := by rw [hZ]; exact peer_alloc z2 f 8 38
                have HTZ2 : Hid (TT Z w3.heap.size T s 0 h true 0) := HTZ.out.of0 kZ
                have HRZ2 : Hid (RingEx Z w4.heap.size h false) := HRZ.out.keep (Keep.of_none (base := 0) kZ)
                have HKZ2 : Hid (Kept (w3.heap.size ≤ ·) W Z) := HKZ.out.and kZ.wide
                have hTZ : T < Z.heap.size := by have := kZ.size; omega
                have hPl : z2.heap.size < Z.heap.size := HPZ.out.lt
                clear kZ hb2
                have eqf := eqpeer f f
                rw [show ((f : Int) == (f : Int)) = true by simp] at eqf
                go_upto_region 22 with fail
                rw [← hZ]
                clear hZ
                have p0 : Z.cell? ⟨z2.heap.size, 0, none⟩ = some (.int .u64 0) := HPZ.out.c0
                have p1 : Z.cell? ⟨z2.heap.size, 1, none⟩ = some (.int .u64 0) := HPZ.out.c1
                have p2 : Z.cell? ⟨z2.heap.size, 2, none⟩ = some (.int .u64 f) := HPZ.out.c2
                have p3 : Z.cell? ⟨z2.heap.size, 3, none⟩ = some (.int .u8 8) := HPZ.out.c3
                have p4 : Z.cell? ⟨z2.heap.size, 4, none⟩ = some (.string ⟨#[]⟩) := HPZ.out.c4
                have p5 : Z.cell? ⟨z2.heap.size, 5, none⟩ = some (.string ⟨#[]⟩) := HPZ.out.c5
                go_region_with (go_at_call 17; refine Calls.mono (HBAT.out _ HTZ2.out.drew) ?_; rintro e z3 ⟨rfl, hb3⟩; have r0 : z3.cell? ⟨z2.heap.size, 0, none⟩ = some (.int .u64 0) := (hb3.cell (p := ⟨z2.heap.size, 0, none⟩) hPl).trans p0; have r1 : z3.cell? ⟨z2.heap.size, 1, none⟩ = some (.int .u64 0) := (hb3.cell (p := ⟨z2.heap.size, 1, none⟩) hPl).trans p1; have r2 : z3.cell? ⟨z2.heap.size, 2, none⟩ = some (.int .u64 f) := (hb3.cell (p := ⟨z2.heap.size, 2, none⟩) hPl).trans p2; have r3 : z3.cell? ⟨z2.heap.size, 3, none⟩ = some (.int .u8 8) := (hb3.cell (p := ⟨z2.heap.size, 3, none⟩) hPl).trans p3; have r4 : z3.cell? ⟨z2.heap.size, 4, none⟩ = some (.string ⟨#[]⟩) := (hb3.cell (p := ⟨z2.heap.size, 4, none⟩) hPl).trans p4; have r5 : z3.cell? ⟨z2.heap.size, 5, none⟩ = some (.string ⟨#[]⟩) := (hb3.cell (p := ⟨z2.heap.size, 5, none⟩) hPl).trans p5;  have k3 : Kept (fun _ => False) Z z3 := (Kept.refl _ Z).drew.trans (Kept.of_below (M := fun _ => False) hb3) (fun _ _ x => x); have K3 : Hid (Kept (fun _ => False) Z z3) := k3; clear hb3 k3)
                all_goals clear p0 p1 p2 p3 p4 p5
                all_goals go_wp2
                all_goals exact ⟨⟨i + 1, by omega, by go_num, HTZ2.out.of0 K3.out, HRZ2.out.keep (Keep.of_none (base := 0) K3.out), HKZ2.out.and K3.out.wide⟩, by simp [intOf]; omega⟩
              · obtain rfl : i = 8 := by omega
                have hjx : j + 1 ≤ 2 := hj2
                have HJ : Hid (j < 2) := hj2
                go_wp2
                refine ⟨⟨j + 1, hjx, by go_num, ?_, HRZ.out, HKZ.out⟩, by simp [intOf]; omega⟩
                unfold TTx
                rw [if_neg (by omega)]
                exact HTZ.out
        · obtain rfl : j = 2 := by omega
          go_wp2
          go_ret
          exact ⟨rfl, HBW.out.trans ((Kept.below HKK.out hsW (fun k a b => Nat.not_le.2 a b)).mono (by omega))⟩

end Go.Proofs.Ybulkcmvc
