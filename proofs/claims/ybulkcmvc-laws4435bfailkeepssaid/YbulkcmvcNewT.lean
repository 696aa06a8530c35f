import Derived.Test.YbulkcmvcNewA
import Derived.WalkKit
import Derived.WalkSpells
import Derived.BigRegion
import Derived.BigQuiet
import Derived.Deep.QuietTactic
import Derived.Deep.RegionWith
import Derived.Deep.RegionHeld3
import Derived.Handy
namespace Go.Proofs.Ybulkcmvc
open Go.RowKit
abbrev zeroId : Value := .agg #[.int .u64 0, .int .u64 0, .int .u64 0, .int .u8 0]
theorem own_of {w : World} {base g n size : Nat} {e : TypeId} {cs : Array Value} (hg : w.heap[g]? = some (.cells cs e (0, 0))) (hb : base ≤ g) (hn : cs.size = n * size) (hm : n ≤ maxLen) : w.ownsRow base e size (.slice (some ⟨g, 0, none⟩) n n) n cs.toList :=
  ⟨by simp [hn], .inr ⟨g, n, cs, rfl, hb, hg, Nat.le_refl _, hm, hn, by rw [← hn, ← Array.length_toList, List.take_length]⟩⟩
set_option maxRecDepth 100000 in
set_option maxHeartbeats 4000000 in
theorem newtab_walk (s : Nat) (h : Has) (w : World) :
    Calls Yba.prog 12 #[peerV s, zeroId, .nilIface] w fun e w' => (∃ T, e = .returned (.pointer (some ⟨T, 0, none⟩)) ∧ TT w' w.heap.size T s 0 h false 0) ∧ Below w.heap.size w w' := by
  go_enter Yba.func12, Yba.ntmps12
  go_wp2
  generalize hW : (w.alloc _).alloc _ = W
  have HB : Hid (Below w.heap.size w W) := by rw [← hW]; exact ((Below.refl _ _).alloc (Nat.le_refl _) _).alloc (by simp) _
  have qW : w.heap.size + 1 < W.heap.size := by rw [← hW]; simp
  have a0 : W.cell? ⟨w.heap.size, 0, none⟩ = some (.int .u64 0) := by rw [← hW]; simp [go_sem]
  have a1 : W.cell? ⟨w.heap.size, 1, none⟩ = some (.int .u64 0) := by rw [← hW]; simp [go_sem]
  have a2 : W.cell? ⟨w.heap.size, 2, none⟩ = some (.int .u64 s) := by rw [← hW]; simp [go_sem]
  have a3 : W.cell? ⟨w.heap.size, 3, none⟩ = some (.int .u8 8) := by rw [← hW]; simp [go_sem]
  have a4 : W.cell? ⟨w.heap.size, 4, none⟩ = some (.string ⟨#[]⟩) := by rw [← hW]; simp [go_sem]
  have a5 : W.cell? ⟨w.heap.size, 5, none⟩ = some (.string ⟨#[]⟩) := by rw [← hW]; simp [go_sem]
  have b0 : W.cell? ⟨w.heap.size + 1, 0, none⟩ = some (.int .u64 0) := by rw [← hW]; simp [go_sem]
  have b1 : W.cell? ⟨w.heap.size + 1, 1, none⟩ = some (.int .u64 0) := by rw [← hW]; simp [go_sem]
  have b2 : W.cell? ⟨w.heap.size + 1, 2, none⟩ = some (.int .u64 0) := by rw [← hW]; simp [go_sem]
  have b3 : W.cell? ⟨w.heap.size + 1, 3, none⟩ = some (.int .u8 0) := by rw [← hW]; simp [go_sem]
  clear hW
  have qV : w.heap.size < W.heap.size := by omega
  have MK : Hid (∀ X, Below W.heap.size W X → X.cell? ⟨w.heap.size, 0, none⟩ = some (.int .u64 0) ∧ X.cell? ⟨w.heap.size, 1, none⟩ = some (.int .u64 0) ∧ X.cell? ⟨w.heap.size, 2, none⟩ = some (.int .u64 s) ∧ X.cell? ⟨w.heap.size, 3, none⟩ = some (.int .u8 8) ∧ X.cell? ⟨w.heap.size, 4, none⟩ = some (.string ⟨#[]⟩) ∧ X.cell? ⟨w.heap.size, 5, none⟩ = some (.string ⟨#[]⟩) ∧ X.cell? ⟨w.heap.size + 1, 0, none⟩ = some (.int .u64 0) ∧ X.cell? ⟨w.heap.size + 1, 1, none⟩ = some (.int .u64 0) ∧ X.cell? ⟨w.heap.size + 1, 2, none⟩ = some (.int .u64 0) ∧ X.cell? ⟨w.heap.size + 1, 3, none⟩ = some (.int .u8 0)) := fun X hX => ⟨(bc hX qV).trans a0, (bc hX qV).trans a1, (bc hX qV).trans a2, (bc hX qV).trans a3, (bc hX qV).trans a4, (bc hX qV).trans a5, (bc hX qW).trans b0, (bc hX qW).trans b1, (bc hX qW).trans b2, (bc hX qW).trans b3⟩
  have hbits : ∀ w, Calls Yba.prog 23 #[idV s] w fun e w' => e = .returned (.int .i64 8) ∧ Below w.heap.size w w' := fun w => bits_walk s w
  have HBITS : Hid _ := hbits
  clear hbits a0 a1 a2 a3 a4 a5 b0 b1 b2 b3
  go_region_held3 (fun X => X.cell? ⟨w.heap.size, 0, none⟩ = some (.int .u64 0) ∧ X.cell? ⟨w.heap.size, 1, none⟩ = some (.int .u64 0) ∧ X.cell? ⟨w.heap.size, 2, none⟩ = some (.int .u64 s) ∧ X.cell? ⟨w.heap.size, 3, none⟩ = some (.int .u8 8) ∧ X.cell? ⟨w.heap.size, 4, none⟩ = some (.string ⟨#[]⟩) ∧ X.cell? ⟨w.heap.size, 5, none⟩ = some (.string ⟨#[]⟩) ∧ X.cell? ⟨w.heap.size + 1, 0, none⟩ = some (.int .u64 0) ∧ X.cell? ⟨w.heap.size + 1, 1, none⟩ = some (.int .u64 0) ∧ X.cell? ⟨w.heap.size + 1, 2, none⟩ = some (.int .u64 0) ∧ X.cell? ⟨w.heap.size + 1, 3, none⟩ = some (.int .u8 0))
    (exact MK.out _ (by repeat' (first | with_reducible exact Below.refl _ _ | with_reducible assumption | with_reducible apply Below.drew | with_reducible apply below_dn2 | with_reducible apply Below.setCell | with_reducible apply Below.alloc | (first | omega | (simp; done) | (simp; omega)))))
    (first
      | (go_at_call 23; with_reducible refine (grown_from HBITS.out W _ ?_).mono ?_; (repeat' (first | with_reducible exact Below.refl _ _ | with_reducible assumption | with_reducible apply Below.drew | with_reducible apply below_dn2 | with_reducible apply Below.setCell | with_reducible apply Below.alloc | (first | omega | (simp; done) | (simp; omega)))); rintro e w1 ⟨rfl, k1⟩)
      | (go_at_call 22; refine Calls.mono (fruns_walk _) ?_; rintro e w2 ⟨rfl, hn1, hn2, hb2⟩; have k2 : Below W.heap.size W w2 := k1.trans (hb2.mono k1.size); have HN1 : Hid _ := hn1; have HN2 : Hid _ := hn2; have q12 : w1.heap.size + 1 + 1 < w2.heap.size := lt_t hn2; have q1 : W.heap.size ≤ w1.heap.size := k1.size; clear hb2 hn1 hn2))
  go_wp2
  go_ret
  have k2' : Below w.heap.size w w2 := HB.out.trans (k2.mono (by omega))
  have q2 := k2'.size
  refine ⟨⟨w2.heap.size, rfl, ?_⟩, k2'.alloc q2 _⟩
  refine ⟨[(none, 8)], ⟨q2, by simp, by simp, w1.heap.size + 1, 1, w1.heap.size + 1 + 1, 1, ⟨heap_alloc_new _ _, ?_, ?_⟩⟩, Tb.start h s⟩
  · exact own_of (n := 1) (heap_alloc_old HN1.out) (by omega) rfl (by decide)
  · exact own_of (n := 1) (heap_alloc_old HN2.out) (by omega) rfl (by decide)
end Go.Proofs.Ybulkcmvc
