import Derived.Test.YbulkcmvcIdD
import Derived.WalkKit
import Derived.WalkSpells
import Derived.BigRegion
import Derived.BigQuiet
import Derived.Deep.QuietTactic
import Derived.Deep.RegionHeld3
import Derived.Handy
namespace Go.Proofs.Ybulkcmvc
open Go.RowKit
/-- the finger table in memory. -/
def tobj (s l : Int) (nv ev : Value) : Obj := .cells #[.int .u64 0, .int .u64 0, .int .u64 s, .int .u8 8, .string ⟨#[]⟩, .string ⟨#[]⟩, .int .u64 0, .int .u64 0, .int .u64 0, .int .u8 0, .nilIface, .int .i32 l, .int .u32 0, nv, ev] 68 (0, 0)
theorem cell_t {w : World} {T : Nat} {s l : Int} {nv ev : Value} (h : w.heap[T]? = some (tobj s l nv ev)) (k : Nat) : w.cell? ⟨T, k, none⟩ = (#[.int .u64 0, .int .u64 0, .int .u64 s, .int .u8 8, .string ⟨#[]⟩, .string ⟨#[]⟩, .int .u64 0, .int .u64 0, .int .u64 0, .int .u8 0, .nilIface, .int .i32 l, .int .u32 0, nv, ev] : Array Value)[k]? := by
  simp [World.cell?, h, tobj]
theorem free_t {w : World} {T : Nat} {s l : Int} {nv ev : Value} (h : w.heap[T]? = some (tobj s l nv ev)) (k : Nat) : w.frozen? ⟨T, k, none⟩ = false := by
  simp [World.frozen?, h, tobj]
theorem lt_t {w : World} {T : Nat} {o : Obj} (h : w.heap[T]? = some o) : T < w.heap.size := by
  rcases Nat.lt_or_ge T w.heap.size with h' | h'
  · exact h'
  · rw [Array.getElem?_eq_none h'] at h; cases h
theorem keep_t {B : Nat} {w w' : World} {T : Nat} {o : Obj} (h : Below B w w') (hT : T < B) (hw : w.heap[T]? = some o) : w'.heap[T]? = some o := (h.block T hT).trans hw
theorem alloc_t {w : World} {T : Nat} {o o' : Obj} (hw : w.heap[T]? = some o) : (w.alloc o').heap[T]? = some o := (Below.heap_alloc w o' T (lt_t hw)).trans hw

set_option maxHeartbeats 1000000 in
/-- (*chordTable).target: no shift. -/
theorem target_walk (T : Nat) (s l : Int) (nv ev : Value) (i : Nat) (hi : i < 8) (hs : 0 ≤ s ∧ s < 256) (w : World) (hT : w.heap[T]? = some (tobj s l nv ev)) :
    Calls Yba.prog 34 #[.pointer (some ⟨T, 0, none⟩), .int .i64 i] w fun e w' => e = .returned (idV ((s + 2 ^ i) % 256)) ∧ Below w.heap.size w w' := by
  have hlt := lt_t hT
  have c0 : w.cell? ⟨T, 0, none⟩ = some (.int .u64 0) := by rw [cell_t hT]; rfl
  have c1 : w.cell? ⟨T, 1, none⟩ = some (.int .u64 0) := by rw [cell_t hT]; rfl
  have c2 : w.cell? ⟨T, 2, none⟩ = some (.int .u64 s) := by rw [cell_t hT]; rfl
  have c3 : w.cell? ⟨T, 3, none⟩ = some (.int .u8 8) := by rw [cell_t hT]; rfl
  have HT : Hid (w.heap[T]? = some (tobj s l nv ev)) := hT
  clear hT
  go_enter Yba.func34, Yba.ntmps34
  go_wp2_with fail
  refine (addpow_walk s i hi hs.1 hs.2 _).mono ?_
  rintro e w1 ⟨rfl, hb⟩
  obtain ⟨g, hg⟩ : ∃ g : Int, (s + 2 ^ i) % 256 = g := ⟨_, rfl⟩
  rw [hg]
  have q1 : w.heap.size < w1.heap.size := by have := hb.size; simp at this; omega
  have hT1 : w1.heap[T]? = some (tobj s l nv ev) := keep_t hb (by simp; omega) (alloc_t HT.out)
  have d6 : w1.cell? ⟨T, 6, none⟩ = some (.int .u64 0) := by rw [cell_t hT1]; rfl
  have d7 : w1.cell? ⟨T, 7, none⟩ = some (.int .u64 0) := by rw [cell_t hT1]; rfl
  have d8 : w1.cell? ⟨T, 8, none⟩ = some (.int .u64 0) := by rw [cell_t hT1]; rfl
  have r0 : w1.cell? ⟨w.heap.size, 0, none⟩ = some (.int .u64 0) := (hb.cell (by simp)).trans (by simp [go_sem])
  have r1 : w1.cell? ⟨w.heap.size, 1, none⟩ = some (.int .u64 0) := (hb.cell (by simp)).trans (by simp [go_sem])
  have r2 : w1.cell? ⟨w.heap.size, 2, none⟩ = some (.int .u64 0) := (hb.cell (by simp)).trans (by simp [go_sem])
  have r3 : w1.cell? ⟨w.heap.size, 3, none⟩ = some (.int .u8 0) := (hb.cell (by simp)).trans (by simp [go_sem])
  have f0 : ∀ o, w1.frozen? ⟨w.heap.size, o, none⟩ = false := fun o => (hb.frozen (by simp)).trans (by simp [go_sem])
  have HB : Hid (Below w.heap.size w w1) := by
    refine Below.trans ?_ (hb.mono ?_)
    · go_grown
    · simp
  have e0 := eqshift
  have qT : T < w1.heap.size := lt_t hT1
  clear hb hT1 HT
  go_wp2
  refine bodyPost_ret (v := idV g) (by simp [results, Yba.results34, go_sem, r0, r1, r2, r3, q1]) rfl ?_
  refine ⟨by rw [hg], ?_⟩
  have := HB.out
  repeat' (first | with_reducible exact Below.refl _ _ | with_reducible assumption | with_reducible apply Below.drew | with_reducible apply below_dn2 | with_reducible apply Below.setCell | with_reducible apply Below.alloc | (first | omega | (simp; done) | (simp; omega)))

/-- one past the last finger that p is found for. -/
def R (s p : Int) : Nat := if p = s then 8 else Lib.bitLen ((p - s) % 256).toNat
theorem bl_bounds : ∀ n : Fin 256, n.val ≠ 0 → 1 ≤ Lib.bitLen n.val ∧ Lib.bitLen n.val ≤ 8 ∧ 2 ^ (Lib.bitLen n.val - 1) ≤ n.val ∧ n.val < 2 ^ Lib.bitLen n.val := by decide +kernel
theorem R_le (s p : Int) : R s p ≤ 8 := by
  unfold R; split
  · omega
  · have := Lib.bitLen_le8 ⟨((p - s) % 256).toNat, by omega⟩; simpa using this
end Go.Proofs.Ybulkcmvc
