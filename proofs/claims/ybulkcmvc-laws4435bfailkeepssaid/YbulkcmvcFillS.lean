import Derived.Test.YbulkcmvcFillA
import Derived.WalkKit
import Derived.Handy
namespace Go.Proofs.Ybulkcmvc
open Go.RowKit
theorem heap_set {w : World} {D k : Nat} {u : Value} {cs : Array Value} {t : TypeId} (h : w.heap[D]? = some (.cells cs t (0, 0))) : (w.setCell ⟨D, k, none⟩ u).heap[D]? = some (.cells (cs.setIfInBounds k u) t (0, 0)) := by
  simp [World.setCell, Array.getElem?_modify, h]
theorem own_set {w : World} {base : Nat} {e : TypeId} {size : Nat} {v : Value} {n : Nat} {xs : List Value} (h : w.ownsRow base e size v n xs) {a : Addr} (u : Value) (hne : v.ownBlock ≠ some a.block) : (w.setCell a u).ownsRow base e size v n xs :=
  own_kept (M := fun k => k = a.block) h ((Kept.refl (fun k => k = a.block) w).setCell (p := a) (fun _ => rfl) u) (fun g hg e => hne (by rw [hg, e]))
theorem kept_grown {w w' : World} {g : Nat} (h : w.grownBy w' (some g)) : Kept (· = g) w w' := ⟨h.os, h.tape, h.output, h.size, fun k hk hm => h.block k hk (fun e => hm (by simpa using e))⟩
/-- the nodes' row is new: it is stored back. -/
theorem set13 {W w1 : World} {base T g n c n' n2 : Nat} {s l : Int} {ev v' : Value} {xs xs' ys : List Value} (hT : W.heap[T]? = some (tobj s l (.slice (some ⟨g, 0, none⟩) n c) ev)) (hn : W.ownsRow base 38 6 (.slice (some ⟨g, 0, none⟩) n c) n xs) (he : W.ownsRow base 5 1 ev n2 ys)
    (hown : w1.ownsRow base 38 6 v' n' xs') (hg : W.grownBy w1 (some g)) :
    w1.heap[T]? = some (tobj s l (.slice (some ⟨g, 0, none⟩) n c) ev) ∧ (w1.setCell ⟨T, 13, none⟩ v').heap[T]? = some (tobj s l v' ev) ∧ (w1.setCell ⟨T, 13, none⟩ v').ownsRow base 38 6 v' n' xs' ∧ (w1.setCell ⟨T, 13, none⟩ v').ownsRow base 5 1 ev n2 ys ∧
    Kept (fun k => k = T ∨ k = g) W (w1.setCell ⟨T, 13, none⟩ v') := by
  have k1 := kept_grown hg
  have gT : T ≠ g := fun e => own_ne hn hT (by decide) (by rw [e]; rfl)
  have h1 : w1.heap[T]? = some (tobj s l (.slice (some ⟨g, 0, none⟩) n c) ev) := (k1.block T (lt_t hT) gT).trans hT
  have e1 : w1.ownsRow base 5 1 ev n2 ys := own_kept he k1 (fun g' hg' e => own_two hn he (by decide) g rfl (by rw [hg', e]))
  refine ⟨h1, by rw [heap_set h1]; rfl, own_set hown v' (own_ne hown h1 (by decide)), own_set e1 v' (own_ne e1 h1 (by decide)), ?_⟩
  have k2 : Kept (fun k => k = T ∨ k = g) W w1 := ⟨k1.os, k1.tape, k1.output, k1.size, fun k hk hm => k1.block k hk (fun e => hm (.inr e))⟩
  exact k2.setCell (fun _ => .inl rfl) v'
/-- the ends' row is new: it is stored back. -/
theorem set14 {W w1 : World} {base T g n c n' n2 : Nat} {s l : Int} {nv v' : Value} {xs xs' ys : List Value} (hT : W.heap[T]? = some (tobj s l nv (.slice (some ⟨g, 0, none⟩) n c))) (hn : W.ownsRow base 5 1 (.slice (some ⟨g, 0, none⟩) n c) n xs) (he : W.ownsRow base 38 6 nv n2 ys)
    (hown : w1.ownsRow base 5 1 v' n' xs') (hg : W.grownBy w1 (some g)) :
    w1.heap[T]? = some (tobj s l nv (.slice (some ⟨g, 0, none⟩) n c)) ∧ (w1.setCell ⟨T, 14, none⟩ v').heap[T]? = some (tobj s l nv v') ∧ (w1.setCell ⟨T, 14, none⟩ v').ownsRow base 5 1 v' n' xs' ∧ (w1.setCell ⟨T, 14, none⟩ v').ownsRow base 38 6 nv n2 ys ∧
    Kept (fun k => k = T ∨ k = g) W (w1.setCell ⟨T, 14, none⟩ v') := by
  have k1 := kept_grown hg
  have gT : T ≠ g := fun e => own_ne hn hT (by decide) (by rw [e]; rfl)
  have h1 : w1.heap[T]? = some (tobj s l nv (.slice (some ⟨g, 0, none⟩) n c)) := (k1.block T (lt_t hT) gT).trans hT
  have e1 : w1.ownsRow base 38 6 nv n2 ys := own_kept he k1 (fun g' hg' e => own_two hn he (by decide) g rfl (by rw [hg', e]))
  refine ⟨h1, by rw [heap_set h1]; rfl, own_set hown v' (own_ne hown h1 (by decide)), own_set e1 v' (own_ne e1 h1 (by decide)), ?_⟩
  have k2 : Kept (fun k => k = T ∨ k = g) W w1 := ⟨k1.os, k1.tape, k1.output, k1.size, fun k hk hm => k1.block k hk (fun e => hm (.inr e))⟩
  exact k2.setCell (fun _ => .inl rfl) v'
end Go.Proofs.Ybulkcmvc
