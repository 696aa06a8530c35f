import Derived.Test.YbulkcmvcReplace
import Derived.WalkKit
import Derived.WalkSpells
import Derived.BigRegion
import Derived.BigQuiet
import Derived.Deep.QuietTactic
import Derived.Deep.RegionHeld3
import Derived.Handy
namespace Go.Proofs.Ybulkcmvc
open Go.RowKit
/-- a finger's node as a value: none is the zero Peer. -/
def pval : Option Nat → Value
  | some v => peerV v
  | none => zeroPeer
/-- the third and the fourth cell of a node. -/
def pw : Option Nat → Int
  | some v => v
  | none => 0
def pb : Option Nat → Int
  | some _ => 8
  | none => 0
theorem pval_eq (p : Option Nat) : pval p = .agg #[.int .u64 0, .int .u64 0, .int .u64 (pw p), .int .u8 (pb p), .string ⟨#[]⟩, .string ⟨#[]⟩] := by cases p <;> rfl
def pcells (p : Option Nat) : List Value := [.int .u64 0, .int .u64 0, .int .u64 (pw p), .int .u8 (pb p), .string ⟨#[]⟩, .string ⟨#[]⟩]
abbrev Runs := List (Option Nat × Nat)
def flat (L : Runs) : List Value := L.flatMap fun p => pcells p.1
def endsV (L : Runs) : List Value := L.map fun p => .int .u8 p.2
theorem flat_len (L : Runs) : (flat L).length = L.length * 6 := by
  induction L with
  | nil => rfl
  | cons a L ih => simp only [flat, List.flatMap_cons, List.length_append, List.length_cons] at *; rw [ih]; simp [pcells]; omega
theorem flat_append (L M : Runs) : flat (L ++ M) = flat L ++ flat M := by simp [flat]
theorem flat_at (L : Runs) (k : Nat) (hk : k < L.length) (j : Nat) (hj : j < 6) : (flat L)[k * 6 + j]? = (pcells (L[k]).1)[j]? := by
  induction L generalizing k with
  | nil => simp at hk
  | cons a L ih =>
    have hc : flat (a :: L) = pcells a.1 ++ flat L := rfl
    rw [hc]
    cases k with
    | zero => rw [List.getElem?_append_left (by simp [pcells]; omega)]; simp
    | succ k =>
      rw [List.getElem?_append_right (by simp [pcells]; omega), show (k + 1) * 6 + j - (pcells a.1).length = k * 6 + j by simp [pcells]; omega]
      simpa using ih k (by simpa using hk)
theorem own_cells {w : World} {base : Nat} {e : TypeId} {size g n cap : Nat} {xs : List Value} (h : w.ownsRow base e size (.slice (some ⟨g, 0, none⟩) n cap) n xs) (j : Nat) (hj : j < n * size) : w.cell? ⟨g, j, none⟩ = xs[j]? := by
  obtain ⟨hl, h2⟩ := h
  rcases h2 with ⟨hv, _⟩ | ⟨g', cap', cur, hv, hb, hh, hnc, hcm, hcs, ht⟩
  · simp at hv
  · simp at hv
    obtain ⟨rfl, rfl⟩ := hv
    have hm : n * size ≤ cap * size := Nat.mul_le_mul_right _ hnc
    rw [← ht, List.getElem?_take_of_lt hj]
    simp [World.cell?, hh]
theorem own_free {w : World} {base : Nat} {e : TypeId} {size g n cap : Nat} {xs : List Value} (h : w.ownsRow base e size (.slice (some ⟨g, 0, none⟩) n cap) n xs) (j : Nat) : w.frozen? ⟨g, j, none⟩ = false := by
  obtain ⟨hl, h2⟩ := h
  rcases h2 with ⟨hv, _⟩ | ⟨g', cap', cur, hv, hb, hh, hnc, hcm, hcs, ht⟩
  · simp at hv
  · simp at hv
    obtain ⟨rfl, rfl⟩ := hv
    simp [World.frozen?, hh]
theorem own_kept {M : Nat → Prop} {w w' : World} {base : Nat} {e : TypeId} {size : Nat} {v : Value} {n : Nat} {xs : List Value} (h : w.ownsRow base e size v n xs) (k : Kept M w w') (hm : ∀ g, v.ownBlock = some g → ¬ M g) : w'.ownsRow base e size v n xs := by
  refine ⟨h.1, ?_⟩
  rcases h.2 with h2 | ⟨g, cap, cur, hv, hb, hh, r⟩
  · exact .inl h2
  · exact .inr ⟨g, cap, cur, hv, hb, by rw [k.block g (lt_t hh) (hm g (by rw [hv]; rfl))]; exact hh, r⟩
theorem own_ne {w : World} {base : Nat} {e : TypeId} {size : Nat} {v : Value} {n : Nat} {xs : List Value} {b : Nat} {cs : Array Value} {t : TypeId} (h : w.ownsRow base e size v n xs) (hb : w.heap[b]? = some (.cells cs t (0, 0))) (hne : t ≠ e) : v.ownBlock ≠ some b := by
  intro he
  rcases h.2 with ⟨rfl, _⟩ | ⟨g, cap, cur, rfl, _, hg, _⟩
  · simp [Value.ownBlock] at he
  · simp [Value.ownBlock] at he
    subst he
    rw [hg] at hb
    simp at hb
    exact hne hb.2.symm
theorem own_two {w : World} {base : Nat} {e e' : TypeId} {size size' : Nat} {v v' : Value} {n n' : Nat} {xs xs' : List Value} (h : w.ownsRow base e size v n xs) (h' : w.ownsRow base e' size' v' n' xs') (hne : e ≠ e') : ∀ g, v.ownBlock = some g → v'.ownBlock ≠ some g := by
  intro g hv
  rcases h.2 with ⟨rfl, _⟩ | ⟨g', cap, cur, rfl, _, hg, _⟩
  · simp [Value.ownBlock] at hv
  · simp [Value.ownBlock] at hv
    subst hv
    exact own_ne h' hg hne
/-- the fingers in memory. -/
structure Fing (w : World) (base T : Nat) (s l : Int) (nv ev : Value) (L : Runs) : Prop where
  t : w.heap[T]? = some (tobj s l nv ev)
  nodes : w.ownsRow base 38 6 nv L.length (flat L)
  ends : w.ownsRow base 5 1 ev L.length (endsV L)
/-- the blocks that the fingers live in. -/
def In (T : Nat) (nv ev : Value) (k : Nat) : Prop := k = T ∨ nv.ownBlock = some k ∨ ev.ownBlock = some k
theorem Fing.kept {M : Nat → Prop} {w w' : World} {base T : Nat} {s l : Int} {nv ev : Value} {L : Runs} (h : Fing w base T s l nv ev L) (k : Kept M w w') (hm : ∀ g, In T nv ev g → ¬ M g) : Fing w' base T s l nv ev L :=
  ⟨(k.block T (lt_t h.t) (hm T (.inl rfl))).trans h.t, own_kept h.nodes k (fun g hg => hm g (.inr (.inl hg))), own_kept h.ends k (fun g hg => hm g (.inr (.inr hg)))⟩
theorem Fing.end_at {w : World} {base T g cap : Nat} {s l : Int} {nv : Value} {L : Runs} (h : Fing w base T s l nv (.slice (some ⟨g, 0, none⟩) L.length cap) L) (k : Nat) (hk : k < L.length) : w.cell? ⟨g, k, none⟩ = some (.int .u8 ((L[k]).2 : Nat)) := by
  rw [own_cells h.ends k (by omega)]
  simp [endsV, hk]
theorem Fing.node_at {w : World} {base T g cap : Nat} {s l : Int} {ev : Value} {L : Runs} (h : Fing w base T s l (.slice (some ⟨g, 0, none⟩) L.length cap) ev L) (k : Nat) (hk : k < L.length) (j : Nat) (hj : j < 6) : w.cell? ⟨g, k * 6 + j, none⟩ = (pcells (L[k]).1)[j]? := by
  rw [own_cells h.nodes (k * 6 + j) (by omega), flat_at L k hk j hj]
end Go.Proofs.Ybulkcmvc
