import Derived.Test.YbulkcmvcRing
import Derived.WalkKit
import Derived.WalkSpells
import Derived.BigRegion
import Derived.BigQuiet
import Derived.Deep.QuietTactic
import Derived.Deep.RegionHeld3
import Derived.Deep.RegionWith
import Derived.Handy
namespace Go.Proofs.Ybulkcmvc
open Go.RowKit
set_option maxHeartbeats 1000000 in
/-- the ring's find, where it answers. -/
theorem rfind_walk (r : Nat) (h : Has) (fd pd : Int) (ctx : Value) (t : Nat) (ht : t < 256) (w : World) (hR : Ring w r h false fd pd) :
    Calls Yba.prog 107 #[.pointer (some ⟨r, 0, none⟩), ctx, idV t] w fun e w' => e = .returned (.tuple #[peerV (nxt h t), .nilIface]) ∧ Kept (· = r) w w' ∧ Ring w' r h false (wrap64 (fd + 1)) pd := by
  obtain ⟨v, hv⟩ : ∃ v : Nat, nxt h t = v := ⟨_, rfl⟩
  have hv2 : v < 256 := by rw [← hv]; exact nxt_lt h t
  rw [hv]
  have hlt := hR.lt
  have c1 := hR.fail
  have c2 := hR.finds
  have f0 := hR.free
  have HR : Hid (Ring w r h false fd pd) := hR
  clear hR
  go_enter Yba.func107, Yba.ntmps107
  go_wp2
  generalize hW : (((w.setCell ⟨r, 257, none⟩ (.int .i64 (wrap64 (fd + 1)))).alloc (.cells #[.int .u64 0, .int .u64 0, .int .u64 t, .int .u8 8] 36)).alloc (.cells #[.int .u64 0, .int .u64 0, .int .u64 0, .int .u8 0, .string ⟨#[]⟩, .string ⟨#[]⟩] 38)) = W
  have hRW : Ring W r h false (wrap64 (fd + 1)) pd := by
    rw [← hW]
    exact ((HR.out.found (wrap64 (fd + 1))).kept (Kept.of_below (M := fun _ => False) (((Below.refl _ _).alloc (Nat.le_refl _) _).alloc (by simp) _)) (fun x => x))
  have HK : Hid (Kept (· = r) w W) := by
    rw [← hW]
    exact (((Kept.refl (· = r) w).setCell (p := ⟨r, 257, none⟩) (fun _ => rfl) _).alloc _).alloc _
  have k2 : W.cell? ⟨w.heap.size, 2, none⟩ = some (.int .u64 t) := by rw [← hW]; simp [go_sem]
  have y0 : W.cell? ⟨w.heap.size + 1, 0, none⟩ = some (.int .u64 0) := by rw [← hW]; simp [go_sem]
  have y1 : W.cell? ⟨w.heap.size + 1, 1, none⟩ = some (.int .u64 0) := by rw [← hW]; simp [go_sem]
  have y2 : W.cell? ⟨w.heap.size + 1, 2, none⟩ = some (.int .u64 0) := by rw [← hW]; simp [go_sem]
  have y3 : W.cell? ⟨w.heap.size + 1, 3, none⟩ = some (.int .u8 0) := by rw [← hW]; simp [go_sem]
  have y4 : W.cell? ⟨w.heap.size + 1, 4, none⟩ = some (.string ⟨#[]⟩) := by rw [← hW]; simp [go_sem]
  have y5 : W.cell? ⟨w.heap.size + 1, 5, none⟩ = some (.string ⟨#[]⟩) := by rw [← hW]; simp [go_sem]
  have yf : ∀ o, W.frozen? ⟨w.heap.size + 1, o, none⟩ = false := by intro o; rw [← hW]; simp [go_sem]
  have qW : w.heap.size + 1 < W.heap.size := by rw [← hW]; simp
  clear hW
  have hbs : Calls Yba.prog 16 #[.pointer (some ⟨r, 0, none⟩), .int .u8 t] W.drew fun e w' => e = .returned (.int .u8 v) ∧ w' = W.drew := by
    rw [← hv]; exact bsucc_walk h r t ht _ hRW.has
  have HBS : Hid _ := hbs
  have HRW : Hid (Ring W r h false (wrap64 (fd + 1)) pd) := hRW
  have et : IntKind.u8.wrap (t : Int) = t := by rw [IntKind.wrap_u8]; omega
  clear hbs hRW f0 c1 c2
  go_region_with (first
    | (go_at_call 16; refine Calls.mono HBS.out ?_; rintro e w1 ⟨rfl, rfl⟩)
    | (go_at_call 11; refine (bpeer_walk v _ (by omega) (by omega)).mono ?_; rintro e w2 ⟨rfl, hb2⟩; have z0 : w2.cell? ⟨w.heap.size + 1, 0, none⟩ = some (.int .u64 0) := (hb2.cell (p := ⟨w.heap.size + 1, 0, none⟩) qW).trans y0; have z1 : w2.cell? ⟨w.heap.size + 1, 1, none⟩ = some (.int .u64 0) := (hb2.cell (p := ⟨w.heap.size + 1, 1, none⟩) qW).trans y1; have z2 : w2.cell? ⟨w.heap.size + 1, 2, none⟩ = some (.int .u64 0) := (hb2.cell (p := ⟨w.heap.size + 1, 2, none⟩) qW).trans y2; have z3 : w2.cell? ⟨w.heap.size + 1, 3, none⟩ = some (.int .u8 0) := (hb2.cell (p := ⟨w.heap.size + 1, 3, none⟩) qW).trans y3; have z4 : w2.cell? ⟨w.heap.size + 1, 4, none⟩ = some (.string ⟨#[]⟩) := (hb2.cell (p := ⟨w.heap.size + 1, 4, none⟩) qW).trans y4; have z5 : w2.cell? ⟨w.heap.size + 1, 5, none⟩ = some (.string ⟨#[]⟩) := (hb2.cell (p := ⟨w.heap.size + 1, 5, none⟩) qW).trans y5; have zf : ∀ o, w2.frozen? ⟨w.heap.size + 1, o, none⟩ = false := fun o => (hb2.frozen (p := ⟨w.heap.size + 1, o, none⟩) qW).trans (yf o); have HB2 : Hid (Below W.heap.size W w2) := ⟨hb2.os, hb2.tape, hb2.output, hb2.size, hb2.block⟩; clear hb2))
  all_goals go_wp2
  refine bodyPost_ret (v := .tuple #[peerV v, .nilIface]) (by simp [results, Yba.results107, go_sem, z0, z1, z2, z3, z4, z5]) rfl ?_
  have hk2 : Kept (fun k => k = w.heap.size + 1) W w2 := Kept.of_below HB2.out
  have hk3 := (((((hk2.setCell (p := ⟨w.heap.size + 1, 0, none⟩) (fun _ => rfl) (.int .u64 0)).setCell (p := ⟨w.heap.size + 1, 1, none⟩) (fun _ => rfl) (.int .u64 0)).setCell (p := ⟨w.heap.size + 1, 2, none⟩) (fun _ => rfl) (.int .u64 v)).setCell (p := ⟨w.heap.size + 1, 3, none⟩) (fun _ => rfl) (.int .u8 8)).setCell (p := ⟨w.heap.size + 1, 4, none⟩) (fun _ => rfl) (.string ⟨#[]⟩)).setCell (p := ⟨w.heap.size + 1, 5, none⟩) (fun _ => rfl) (.string ⟨#[]⟩)
  refine ⟨rfl, HK.out.trans hk3 (fun n hn e => by omega), HRW.out.kept hk3 (by omega)⟩

set_option maxHeartbeats 1000000 in
/-- the ring's find, where it is down. -/
theorem rfind_down (r : Nat) (h : Has) (fd pd : Int) (ctx : Value) (t : Nat) (w : World) (hR : Ring w r h true fd pd) :
    Calls Yba.prog 107 #[.pointer (some ⟨r, 0, none⟩), ctx, idV t] w fun e w' => ∃ b, e = .returned (.tuple #[zeroPeer, .iface 165 (.pointer (some ⟨b, 0, none⟩))]) ∧ Kept (· = r) w w' ∧ Ring w' r h true (wrap64 (fd + 1)) pd := by
  have hlt := hR.lt
  have c1 := hR.fail
  have c2 := hR.finds
  have f0 := hR.free
  have HR : Hid (Ring w r h true fd pd) := hR
  clear hR
  go_enter Yba.func107, Yba.ntmps107
  go_wp2
  refine bodyPost_ret (v := .tuple #[zeroPeer, .iface 165 (.pointer (some ⟨w.heap.size + 1 + 1, 0, none⟩))]) (by simp [results, Yba.results107, go_sem]) rfl ?_
  refine ⟨_, rfl, ?_, ?_⟩
  · exact ((((Kept.refl (· = r) w).setCell (p := ⟨r, 257, none⟩) (fun _ => rfl) _).alloc _).alloc _).alloc _
  · exact ((HR.out.found (wrap64 (fd + 1))).kept (Kept.of_below (M := fun _ => False) ((((Below.refl _ _).alloc (Nat.le_refl _) _).alloc (by simp) _).alloc (by simp; omega) _)) (fun x => x))
/-- a node, or none. -/
def PoZ (q : Value) : Prop := q = zeroPeer ∨ ∃ v : Nat, v < 256 ∧ q = peerV v
set_option maxHeartbeats 1000000 in
theorem rpred_walk (r : Nat) (h : Has) (fl : Bool) (fd pd : Int) (ctx : Value) (t : Nat) (ht : t < 256) (w : World) (hR : Ring w r h fl fd pd) :
    Calls Yba.prog 108 #[.pointer (some ⟨r, 0, none⟩), ctx, peerV t] w fun e w' => (∃ q : Value, PoZ q ∧ e = .returned (.tuple #[q, .nilIface])) ∧ Kept (· = r) w w' ∧ ∃ pd', Ring w' r h fl fd pd' := by
  have hlt := hR.lt
  have c2 := hR.preds
  have f0 := hR.free
  have HR : Hid (Ring w r h fl fd pd) := hR
  have et : IntKind.u8.wrap (t : Int) = t := by rw [IntKind.wrap_u8]; omega
  clear hR
  go_enter Yba.func108, Yba.ntmps108
  go_wp2
  generalize hW : (((w.setCell ⟨r, 258, none⟩ (.int .i64 (wrap64 (pd + 1)))).alloc (.cells #[.int .u64 0, .int .u64 0, .int .u64 t, .int .u8 8, .string ⟨#[]⟩, .string ⟨#[]⟩] 38)).alloc (.cells #[.int .u64 0, .int .u64 0, .int .u64 0, .int .u8 0, .string ⟨#[]⟩, .string ⟨#[]⟩] 38)) = W
  have hRW : Ring W r h fl fd (wrap64 (pd + 1)) := by
    rw [← hW]
    exact ((HR.out.pred (wrap64 (pd + 1))).kept (Kept.of_below (M := fun _ => False) (((Below.refl _ _).alloc (Nat.le_refl _) _).alloc (by simp) _)) (fun x => x))
  have HK : Hid (Kept (· = r) w W) := by
    rw [← hW]
    exact (((Kept.refl (· = r) w).setCell (p := ⟨r, 258, none⟩) (fun _ => rfl) _).alloc _).alloc _
  have y0 : W.cell? ⟨w.heap.size + 1, 0, none⟩ = some (.int .u64 0) := by rw [← hW]; simp [go_sem]
  have y1 : W.cell? ⟨w.heap.size + 1, 1, none⟩ = some (.int .u64 0) := by rw [← hW]; simp [go_sem]
  have y2 : W.cell? ⟨w.heap.size + 1, 2, none⟩ = some (.int .u64 0) := by rw [← hW]; simp [go_sem]
  have y3 : W.cell? ⟨w.heap.size + 1, 3, none⟩ = some (.int .u8 0) := by rw [← hW]; simp [go_sem]
  have y4 : W.cell? ⟨w.heap.size + 1, 4, none⟩ = some (.string ⟨#[]⟩) := by rw [← hW]; simp [go_sem]
  have y5 : W.cell? ⟨w.heap.size + 1, 5, none⟩ = some (.string ⟨#[]⟩) := by rw [← hW]; simp [go_sem]
  have yf : ∀ o, W.frozen? ⟨w.heap.size + 1, o, none⟩ = false := by intro o; rw [← hW]; simp [go_sem]
  have qW : w.heap.size + 1 < W.heap.size := by rw [← hW]; simp
  have HRW : Hid (Ring W r h fl fd (wrap64 (pd + 1))) := hRW
  clear hW hRW c2 f0
  go_loop [9] (fun vd => ∃ d : Nat, d ≤ 256 ∧ vd = .int .i64 d) (fun vd => 256 - (intOf vd).toNat)
  case atStart => exact ⟨1, by omega, rfl⟩
  case round =>
    obtain ⟨d, hd, rfl⟩ := hrel
    by_cases hd2 : d < 256
    · have q1 : (d : Int) < 256 := by omega
      obtain ⟨v, hv⟩ : ∃ v : Nat, (t + 256 - d) % 256 = v := ⟨_, rfl⟩
      have hv2 : v < 256 := by omega
      have qv : (v : Int) < 256 := by omega
      have c1 := HRW.out.has v hv2
      have e1 : IntKind.u8.wrap ((d : Int)) = d := by rw [IntKind.wrap_u8]; omega
      have e2 : IntKind.u8.wrap ((t : Int) - (d : Int)) = v := by rw [IntKind.wrap_u8]; omega
      obtain ⟨b, hb⟩ : ∃ b, h v = b := ⟨_, rfl⟩
      rw [hb] at c1
      cases b
      · go_wp2
        exact ⟨⟨d + 1, by omega, by go_num⟩, by simp [intOf]; omega⟩
      · go_wp2_with fail
        refine (bpeer_walk v _ (by omega) (by omega)).mono ?_
        rintro e w2 ⟨rfl, hb2⟩
        have z0 : w2.cell? ⟨w.heap.size + 1, 0, none⟩ = some (.int .u64 0) := (hb2.cell (p := ⟨w.heap.size + 1, 0, none⟩) qW).trans y0
        have z1 : w2.cell? ⟨w.heap.size + 1, 1, none⟩ = some (.int .u64 0) := (hb2.cell (p := ⟨w.heap.size + 1, 1, none⟩) qW).trans y1
        have z2 : w2.cell? ⟨w.heap.size + 1, 2, none⟩ = some (.int .u64 0) := (hb2.cell (p := ⟨w.heap.size + 1, 2, none⟩) qW).trans y2
        have z3 : w2.cell? ⟨w.heap.size + 1, 3, none⟩ = some (.int .u8 0) := (hb2.cell (p := ⟨w.heap.size + 1, 3, none⟩) qW).trans y3
        have z4 : w2.cell? ⟨w.heap.size + 1, 4, none⟩ = some (.string ⟨#[]⟩) := (hb2.cell (p := ⟨w.heap.size + 1, 4, none⟩) qW).trans y4
        have z5 : w2.cell? ⟨w.heap.size + 1, 5, none⟩ = some (.string ⟨#[]⟩) := (hb2.cell (p := ⟨w.heap.size + 1, 5, none⟩) qW).trans y5
        have zf : ∀ o, w2.frozen? ⟨w.heap.size + 1, o, none⟩ = false := fun o => (hb2.frozen (p := ⟨w.heap.size + 1, o, none⟩) qW).trans (yf o)
        have HB2 : Hid (Below W.heap.size W w2) := hb2
        clear hb2
        go_wp2
        refine bodyPost_ret (v := .tuple #[peerV v, .nilIface]) (by simp [results, Yba.results108, go_sem, z0, z1, z2, z3, z4, z5]) rfl ?_
        have hk2 : Kept (fun k => k = w.heap.size + 1) W w2 := Kept.of_below HB2.out
        have hk3 := (((((hk2.setCell (p := ⟨w.heap.size + 1, 0, none⟩) (fun _ => rfl) (.int .u64 0)).setCell (p := ⟨w.heap.size + 1, 1, none⟩) (fun _ => rfl) (.int .u64 0)).setCell (p := ⟨w.heap.size + 1, 2, none⟩) (fun _ => rfl) (.int .u64 v)).setCell (p := ⟨w.heap.size + 1, 3, none⟩) (fun _ => rfl) (.int .u8 8)).setCell (p := ⟨w.heap.size + 1, 4, none⟩) (fun _ => rfl) (.string ⟨#[]⟩)).setCell (p := ⟨w.heap.size + 1, 5, none⟩) (fun _ => rfl) (.string ⟨#[]⟩)
        exact ⟨⟨peerV v, .inr ⟨v, hv2, rfl⟩, rfl⟩, HK.out.trans hk3 (fun n hn e => by omega), _, HRW.out.kept hk3 (by omega)⟩
    · obtain rfl : d = 256 := by omega
      go_wp2
      refine bodyPost_ret (v := .tuple #[zeroPeer, .nilIface]) (by simp [results, Yba.results108, go_sem, y0, y1, y2, y3, y4, y5]) rfl ?_
      have hk2 : Kept (fun k => k = w.heap.size + 1) W W := Kept.refl _ _
      have hk3 := (((((hk2.setCell (p := ⟨w.heap.size + 1, 0, none⟩) (fun _ => rfl) (.int .u64 0)).setCell (p := ⟨w.heap.size + 1, 1, none⟩) (fun _ => rfl) (.int .u64 0)).setCell (p := ⟨w.heap.size + 1, 2, none⟩) (fun _ => rfl) (.int .u64 0)).setCell (p := ⟨w.heap.size + 1, 3, none⟩) (fun _ => rfl) (.int .u8 0)).setCell (p := ⟨w.heap.size + 1, 4, none⟩) (fun _ => rfl) (.string ⟨#[]⟩)).setCell (p := ⟨w.heap.size + 1, 5, none⟩) (fun _ => rfl) (.string ⟨#[]⟩)
      exact ⟨⟨zeroPeer, .inl rfl, rfl⟩, HK.out.trans hk3 (fun n hn e => by omega), _, HRW.out.kept hk3 (by omega)⟩
end Go.Proofs.Ybulkcmvc
