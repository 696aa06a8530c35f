import Derived.Test.YbulkcmvcReach
import Derived.WalkKit
import Derived.WalkSpells
import Derived.BigRegion
import Derived.BigQuiet
import Derived.Deep.QuietTactic
import Derived.Deep.RegionHeld3
import Derived.Handy
namespace Go.Proofs.Ybulkcmvc
open Go.RowKit
/-- the nodes of a ring of 8-bit ids. -/
abbrev Has := Nat → Bool
/-- how far the first node at or after t lies, asked from distance d on with 'f' rounds left. -/
def far (h : Has) (t : Nat) : Nat → Nat → Nat
  | _, 0 => 0
  | d, f + 1 => if h ((t + d) % 256) then d else far h t (d + 1) f
/-- the first node at or after t, clockwise. -/
def nxt (h : Has) (t : Nat) : Nat := (t + far h t 0 256) % 256
set_option maxHeartbeats 1000000 in
/-- zzs4435bsucc. -/
theorem bsucc_walk (h : Has) (H t : Nat) (ht : t < 256) (w : World) (hc : ∀ k, k < 256 → w.cell? ⟨H, k, none⟩ = some (.bool (h k))) :
    Calls Yba.prog 16 #[.pointer (some ⟨H, 0, none⟩), .int .u8 t] w fun e w' => e = .returned (.int .u8 (nxt h t)) ∧ w' = w := by
  have HC : Hid (∀ k, k < 256 → w.cell? ⟨H, k, none⟩ = some (.bool (h k))) := hc
  clear hc
  go_enter Yba.func16, Yba.ntmps16
  go_wp2
  go_loop [5] (fun vd => ∃ d : Nat, d ≤ 256 ∧ vd = .int .i64 d ∧ far h t d (256 - d) = far h t 0 256) (fun vd => 256 - (intOf vd).toNat)
  case atStart => exact ⟨0, by omega, rfl, rfl⟩
  case round =>
    obtain ⟨d, hd, rfl, hf⟩ := hrel
    by_cases hd2 : d < 256
    · have q1 : (d : Int) < 256 := by omega
      obtain ⟨v, hv⟩ : ∃ v : Nat, (t + d) % 256 = v := ⟨_, rfl⟩
      have hv2 : v < 256 := by omega
      have qv : (v : Int) < 256 := by omega
      have c1 := HC.out v hv2
      have e1 : IntKind.u8.wrap ((d : Int)) = d := by rw [IntKind.wrap_u8]; omega
      have e2 : IntKind.u8.wrap ((t : Int) + (d : Int)) = v := by rw [IntKind.wrap_u8]; omega
      obtain ⟨b, hb⟩ : ∃ b, h v = b := ⟨_, rfl⟩
      rw [hb] at c1
      have HF : Hid (far h t d (256 - d) = far h t 0 256) := hf
      clear hf
      cases b
      · go_wp2
        refine ⟨⟨d + 1, by omega, by go_num, ?_⟩, by simp [intOf]; omega⟩
        rw [← HF.out, show 256 - d = (256 - (d + 1)) + 1 by omega, far, hv, hb]
        rfl
      · go_wp2
        go_ret
        refine ⟨?_, rfl⟩
        have : far h t 0 256 = d := by
          rw [← HF.out, show 256 - d = (256 - (d + 1)) + 1 by omega, far, hv, hb]
          rfl
        unfold nxt
        rw [this, hv]
        rfl
    · obtain rfl : d = 256 := by omega
      go_wp2
      go_ret
      refine ⟨?_, rfl⟩
      have : far h t 0 256 = 0 := by rw [← hf]; rfl
      unfold nxt
      rw [this, show (t + 0) % 256 = t by omega]
      rfl
/-- memory but for the blocks of M is as it was. -/
structure Kept (M : Nat → Prop) (w w' : World) : Prop where
  os : w'.os = w.os
  tape : w'.tape = w.tape
  output : w'.output = w.output
  size : w.heap.size ≤ w'.heap.size
  block : ∀ k, k < w.heap.size → ¬ M k → w'.heap[k]? = w.heap[k]?
theorem Kept.refl (M : Nat → Prop) (w : World) : Kept M w w := ⟨rfl, rfl, rfl, Nat.le_refl _, fun _ _ _ => rfl⟩
theorem Kept.trans {M M' : Nat → Prop} {a b c : World} (h : Kept M a b) (k : Kept M' b c) (hM : ∀ n, n < a.heap.size → M' n → M n) : Kept M a c :=
  ⟨k.os.trans h.os, k.tape.trans h.tape, k.output.trans h.output, Nat.le_trans h.size k.size, fun i hi hm => (k.block i (Nat.lt_of_lt_of_le hi h.size) (fun x => hm (hM i hi x))).trans (h.block i hi hm)⟩
theorem Kept.of_below {M : Nat → Prop} {w w' : World} (h : Below w.heap.size w w') : Kept M w w' := ⟨h.os, h.tape, h.output, h.size, fun k hk _ => h.block k hk⟩
theorem Kept.below {M : Nat → Prop} {w w' : World} {B : Nat} (h : Kept M w w') (hB : B ≤ w.heap.size) (hM : ∀ k, k < B → ¬ M k) : Below B w w' := ⟨h.os, h.tape, h.output, h.size, fun k hk => h.block k (by omega) (hM k hk)⟩
theorem Kept.setCell {M : Nat → Prop} {a w : World} (h : Kept M a w) {p : Addr} (hp : p.block < a.heap.size → M p.block) (u : Value) : Kept M a (w.setCell p u) :=
  ⟨h.os, h.tape, h.output, by simp [World.setCell]; exact h.size, fun k hk hm => by
    have hne : k ≠ p.block := fun e => hm (e ▸ hp (e ▸ hk))
    rw [Below.heap_setCell _ _ _ _ hne]; exact h.block k hk hm⟩
theorem Kept.alloc {M : Nat → Prop} {a w : World} (h : Kept M a w) (o : Obj) : Kept M a (w.alloc o) :=
  ⟨h.os, h.tape, h.output, by simp; exact Nat.le_succ_of_le h.size, fun k hk hm => by
    rw [Below.heap_alloc _ _ _ (Nat.lt_of_lt_of_le hk h.size)]; exact h.block k hk hm⟩
theorem Kept.drew {M : Nat → Prop} {a w : World} (h : Kept M a w) : Kept M a w.drew := ⟨h.os, h.tape, h.output, h.size, h.block⟩
theorem Kept.drewN {M : Nat → Prop} {a w : World} {n : Nat} (h : Kept M a w) : Kept M a (w.drewN n) := ⟨h.os, h.tape, h.output, h.size, h.block⟩
theorem Kept.cell {M : Nat → Prop} {w w' : World} (h : Kept M w w') {p : Addr} (hp : p.block < w.heap.size) (hm : ¬ M p.block) : w'.cell? p = w.cell? p := World.cell?_of_block (w := w) (h.block p.block hp hm)
theorem Kept.frozen {M : Nat → Prop} {w w' : World} (h : Kept M w w') {p : Addr} (hp : p.block < w.heap.size) (hm : ¬ M p.block) : w'.frozen? p = w.frozen? p := World.frozen?_of_block (w := w) (h.block p.block hp hm)
/-- the stand-in ring in memory. -/
structure Ring (w : World) (r : Nat) (h : Has) (fl : Bool) (fd pd : Int) : Prop where
  lt : r < w.heap.size
  has : ∀ k, k < 256 → w.cell? ⟨r, k, none⟩ = some (.bool (h k))
  fail : w.cell? ⟨r, 256, none⟩ = some (.bool fl)
  finds : w.cell? ⟨r, 257, none⟩ = some (.int .i64 fd)
  preds : w.cell? ⟨r, 258, none⟩ = some (.int .i64 pd)
  free : ∀ o, w.frozen? ⟨r, o, none⟩ = false
theorem Ring.kept {M : Nat → Prop} {w w' : World} {r : Nat} {h : Has} {fl : Bool} {fd pd : Int} (g : Ring w r h fl fd pd) (k : Kept M w w') (hm : ¬ M r) : Ring w' r h fl fd pd :=
  ⟨Nat.lt_of_lt_of_le g.lt k.size, fun i hi => (k.cell (p := ⟨r, i, none⟩) g.lt hm).trans (g.has i hi), (k.cell (p := ⟨r, 256, none⟩) g.lt hm).trans g.fail, (k.cell (p := ⟨r, 257, none⟩) g.lt hm).trans g.finds, (k.cell (p := ⟨r, 258, none⟩) g.lt hm).trans g.preds, fun o => (k.frozen (p := ⟨r, o, none⟩) g.lt hm).trans (g.free o)⟩
theorem Ring.found {w : World} {r : Nat} {h : Has} {fl : Bool} {fd pd : Int} (g : Ring w r h fl fd pd) (x : Int) : Ring (w.setCell ⟨r, 257, none⟩ (.int .i64 x)) r h fl x pd :=
  ⟨by simpa [World.setCell] using g.lt, fun i hi => (World.cell?_setCell_other _ ⟨r, 257, none⟩ ⟨r, i, none⟩ _ (by simp <;> omega)).trans (g.has i hi), (World.cell?_setCell_other _ ⟨r, 257, none⟩ ⟨r, 256, none⟩ _ (by simp)).trans g.fail, World.cell?_setCell_same _ _ _ g.finds, (World.cell?_setCell_other _ ⟨r, 257, none⟩ ⟨r, 258, none⟩ _ (by simp)).trans g.preds, fun o => by simp [g.free]⟩
theorem Ring.pred {w : World} {r : Nat} {h : Has} {fl : Bool} {fd pd : Int} (g : Ring w r h fl fd pd) (x : Int) : Ring (w.setCell ⟨r, 258, none⟩ (.int .i64 x)) r h fl fd x :=
  ⟨by simpa [World.setCell] using g.lt, fun i hi => (World.cell?_setCell_other _ ⟨r, 258, none⟩ ⟨r, i, none⟩ _ (by simp <;> omega)).trans (g.has i hi), (World.cell?_setCell_other _ ⟨r, 258, none⟩ ⟨r, 256, none⟩ _ (by simp)).trans g.fail, (World.cell?_setCell_other _ ⟨r, 258, none⟩ ⟨r, 257, none⟩ _ (by simp)).trans g.finds, World.cell?_setCell_same _ _ _ g.preds, fun o => by simp [g.free]⟩
theorem nxt_lt (h : Has) (t : Nat) : nxt h t < 256 := Nat.mod_lt _ (by decide)
end Go.Proofs.Ybulkcmvc
