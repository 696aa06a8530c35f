import Derived.Test.YbulkcmvcLocks
import Derived.Deep.RegionLaw
import Derived.Laws.MakeOwn
import Derived.WalkKit
import Derived.WalkSpells
import Derived.BigRegion
import Derived.BigQuiet
import Derived.Deep.QuietTactic
import Derived.Handy
namespace Go
/-- append onto a row of the call's own, as one step of a region that draws. -/
theorem step_append_own {P : Program} {ops : Array Oper} {o : Oper} {a : Act} {w : World} {K : Act → World → Prop} {Q : Exit → Act → World → Prop} {E : Prop}
    (hg : o.guard = none) (s x : Operand) (t : TypeId) (hop : o.op = Op.call { callee := Callee.builtin Builtin.append, args := #[s, x], argTypes := #[t, t] })
    (base : Nat) (e : TypeId) (i : TypeInfo) (z : Value) (size bytes : Nat) (h1 : P.underlying t = some (.slice e)) (h2 : P.info? e = some i) (h3 : i.zero = some z) (h4 : i.size = size) (h5 : i.bytes = bytes) (h6 : z.cells.size = size) (h7 : 0 < size)
    (v : Value) (n : Nat) (xs : List Value) (hs : a.eval s = v) (hown : w.ownsRow base e size v n xs)
    (ad : Addr) (m c : Nat) (news : List Value) (hx : a.eval x = .slice (some ad) m c) (hn : news.length = m * size) (hc : ∀ j u, news[j]? = some u → w.cell? (ad.add j) = some u) (h1c : ∀ u ∈ news, u.oneCell' = true)
    (b1 : n + m ≤ maxLen) (b2 : (n + m) * bytes ≤ 140737488355328) (hbase : base ≤ w.heap.size)
    (hK : ∀ v' w', w'.ownsRow base e size v' (n + m) (xs ++ news) → w.grownBy w' v.ownBlock → K (a.put o.dst v') w') :
    if Region.wanted o (yielded ops a.tmps) = true then Oper.wp P o a w K Q else E := by
  have hw : Region.wanted o (yielded ops a.tmps) = true := by simp [Region.wanted, hg]
  rw [if_pos hw]
  obtain ⟨v', w', hrun, r1, r2, _⟩ := run_append_own (P := P) w base t o.type e i z size bytes h1 h2 h3 h4 h5 h6 h7 v n xs hown ad m c news hn hc h1c b1 b2 hbase
  unfold Oper.wp
  simp [execOp, hop, resolve, invoke, builtin, hs, hx, hrun, Result.andThen]
  exact hK v' w' r1 r2
end Go
namespace Go.Proofs.Ybulkcmvc
open Go.RowKit
theorem own_made {W : World} {base n size : Nat} {e : TypeId} {zs : Array Value} (hb : base ≤ W.heap.size) (hn : n ≤ maxLen) : (W.alloc (.cells (madeCells zs (n * size)) e)).ownsRow base e size (.slice (some ⟨W.heap.size, 0, none⟩) 0 n) 0 [] := by
  refine ⟨by simp, .inr ⟨W.heap.size, n, madeCells zs (n * size), rfl, hb, ?_, Nat.zero_le _, hn, size_madeCells _ _, by simp⟩⟩
  show (W.heap.push _)[W.heap.size]? = _
  simp
/-- the nodes' row is another: it is stored back. -/
theorem set13b {X w1 : World} {base T b n' : Nat} {s l : Int} {nv ev v' : Value} {L L' : Runs} {xs' : List Value} (h : Fing X base T s l nv ev L) (hown : w1.ownsRow base 38 6 v' n' xs') (hg : X.grownBy w1 (some b)) (hT : T ≠ b) (he : ev.ownBlock ≠ some b) (hn : n' = L'.length) (hx : xs' = flat L') (hL : L'.length = L.length) (hE : endsV L' = endsV L) :
    w1.heap[T]? = some (tobj s l nv ev) ∧ Fing (w1.setCell ⟨T, 13, none⟩ v') base T s l v' ev L' ∧ Kept (fun k => k = T ∨ k = b) X (w1.setCell ⟨T, 13, none⟩ v') := by
  subst hn hx
  have k1 := kept_grown hg
  have h1 : w1.heap[T]? = some (tobj s l nv ev) := (k1.block T (lt_t h.t) hT).trans h.t
  have e1 : w1.ownsRow base 5 1 ev L'.length (endsV L') := by rw [hL, hE]; exact own_kept h.ends k1 (fun g' hg' e => he (by rw [hg', e]))
  refine ⟨h1, ⟨by rw [heap_set h1]; rfl, own_set hown v' (own_ne hown h1 (by decide)), own_set e1 v' (own_ne e1 h1 (by decide))⟩, ?_⟩
  have k2 : Kept (fun k => k = T ∨ k = b) X w1 := ⟨k1.os, k1.tape, k1.output, k1.size, fun k hk hm => k1.block k hk (fun e => hm (.inr e))⟩
  exact k2.setCell (fun _ => .inl rfl) v'
theorem set14b {X w1 : World} {base T b n' : Nat} {s l : Int} {nv ev v' : Value} {L L' : Runs} {xs' : List Value} (h : Fing X base T s l nv ev L) (hown : w1.ownsRow base 5 1 v' n' xs') (hg : X.grownBy w1 (some b)) (hT : T ≠ b) (he : nv.ownBlock ≠ some b) (hn : n' = L'.length) (hx : xs' = endsV L') (hL : L'.length = L.length) (hE : flat L' = flat L) :
    w1.heap[T]? = some (tobj s l nv ev) ∧ Fing (w1.setCell ⟨T, 14, none⟩ v') base T s l nv v' L' ∧ Kept (fun k => k = T ∨ k = b) X (w1.setCell ⟨T, 14, none⟩ v') := by
  subst hn hx
  have k1 := kept_grown hg
  have h1 : w1.heap[T]? = some (tobj s l nv ev) := (k1.block T (lt_t h.t) hT).trans h.t
  have e1 : w1.ownsRow base 38 6 nv L'.length (flat L') := by rw [hL, hE]; exact own_kept h.nodes k1 (fun g' hg' e => he (by rw [hg', e]))
  refine ⟨h1, ⟨by rw [heap_set h1]; rfl, own_set e1 v' (own_ne e1 h1 (by decide)), own_set hown v' (own_ne hown h1 (by decide))⟩, ?_⟩
  have k2 : Kept (fun k => k = T ∨ k = b) X w1 := ⟨k1.os, k1.tape, k1.output, k1.size, fun k hk hm => k1.block k hk (fun e => hm (.inr e))⟩
  exact k2.setCell (fun _ => .inl rfl) v'
end Go.Proofs.Ybulkcmvc
