import Derived.Test.YbulkcmvcTrim
namespace Go.Proofs.Ybulkcmvc
open Go.RowKit
/-- the finger table in memory, wherever its rows lie. -/
def Tab (w : World) (base T : Nat) (s l : Int) (L : Runs) : Prop := base ≤ T ∧ 0 < L.length ∧ L.length < 16 ∧ ∃ g1 c1 g2 c2, Fing w base T s l (.slice (some ⟨g1, 0, none⟩) L.length c1) (.slice (some ⟨g2, 0, none⟩) L.length c2) L
/-- what every walk on the table keeps: the blocks below its base, every ring, and every block of another type. -/
def Keep (base : Nat) (w w' : World) : Prop := Kept (base ≤ ·) w w' ∧ (∀ r h fl fd pd, Ring w r h fl fd pd → Ring w' r h fl fd pd) ∧ ∀ (b : Nat) (cs : Array Value) (t : TypeId), w.heap[b]? = some (Obj.cells cs t (0, 0)) → t ≠ 68 → t ≠ 38 → t ≠ 5 → w'.heap[b]? = some (Obj.cells cs t (0, 0))
theorem Keep.refl (base : Nat) (w : World) : Keep base w w := ⟨Kept.refl _ w, fun _ _ _ _ _ h => h, fun _ _ _ h _ _ _ => h⟩
theorem Keep.trans {base : Nat} {a b c : World} (h : Keep base a b) (k : Keep base b c) : Keep base a c := ⟨h.1.trans k.1 (fun _ _ h => h), fun _ _ _ _ _ g => k.2.1 _ _ _ _ _ (h.2.1 _ _ _ _ _ g), fun b cs t g a1 a2 a3 => k.2.2 b cs t (h.2.2 b cs t g a1 a2 a3) a1 a2 a3⟩
theorem Keep.of_below {base : Nat} {w w' : World} (h : Below w.heap.size w w') : Keep base w w' := ⟨Kept.of_below h, fun _ _ _ _ _ g => g.kept (M := fun _ => False) (Kept.of_below h) (fun x => x), fun _ _ _ g _ _ _ => keep_t h (lt_t g) g⟩
theorem Keep.of_none {base : Nat} {w w' : World} (h : Kept (fun _ => False) w w') : Keep base w w' := ⟨⟨h.os, h.tape, h.output, h.size, fun k hk _ => h.block k hk (fun x => x)⟩, fun _ _ _ _ _ g => g.kept h (fun x => x), fun b _ _ g _ _ _ => (h.block b (lt_t g) (fun x => x)).trans g⟩
theorem Keep.drewN {base : Nat} {w w' : World} {n : Nat} (h : Keep base w w') : Keep base w (w'.drewN n) := h.trans (Keep.of_none ((Kept.refl _ w').drewN))
theorem Keep.size {base : Nat} {w w' : World} (h : Keep base w w') : w.heap.size ≤ w'.heap.size := h.1.size
theorem Tab.size {w : World} {base T : Nat} {s l : Int} {L : Runs} (h : Tab w base T s l L) : base ≤ w.heap.size := by
  obtain ⟨h1, _, _, _, _, _, _, h2⟩ := h
  have := lt_t h2.t
  omega
/-- a ring's block is none of the table's. -/
theorem ring_not_in {w : World} {base T g1 c1 g2 c2 r : Nat} {s l : Int} {L : Runs} {h : Has} {fl : Bool} {fd pd : Int} (hL : 0 < L.length) (hF : Fing w base T s l (.slice (some ⟨g1, 0, none⟩) L.length c1) (.slice (some ⟨g2, 0, none⟩) L.length c2) L) (hR : Ring w r h fl fd pd) :
    ¬ In T (.slice (some ⟨g1, 0, none⟩) L.length c1) (.slice (some ⟨g2, 0, none⟩) L.length c2) r := by
  have h0 := hR.has 0 (by decide)
  rintro (rfl | hx | hx)
  · rw [cell_t hF.t] at h0
    simp at h0
  · have : g1 = r := by simpa [Value.ownBlock] using hx
    subst this
    have := hF.node_at 0 hL 0 (by decide)
    rw [show (0 * 6 + 0 : Nat) = 0 from rfl, h0] at this
    simp [pcells] at this
  · have : g2 = r := by simpa [Value.ownBlock] using hx
    subst this
    rw [hF.end_at 0 hL] at h0
    simp at h0
theorem Keep.of_in {w w' : World} {base T g1 c1 g2 c2 : Nat} {s l : Int} {L : Runs} (hbT : base ≤ T) (hL : 0 < L.length) (hF : Fing w base T s l (.slice (some ⟨g1, 0, none⟩) L.length c1) (.slice (some ⟨g2, 0, none⟩) L.length c2) L)
    (hk : Kept (In T (.slice (some ⟨g1, 0, none⟩) L.length c1) (.slice (some ⟨g2, 0, none⟩) L.length c2)) w w') : Keep base w w' := by
  refine ⟨⟨hk.os, hk.tape, hk.output, hk.size, fun k hk1 hk2 => hk.block k hk1 ?_⟩, fun r h fl fd pd hR => hR.kept hk (ring_not_in hL hF hR), fun b cs t g a1 a2 a3 => (hk.block b (lt_t g) ?_).trans g⟩
  rintro (rfl | hx | hx)
  · exact hk2 hbT
  · have := own_cap hF.nodes
    have : g1 = k := by simpa [Value.ownBlock] using hx
    omega
  · have := own_cap hF.ends
    have : g2 = k := by simpa [Value.ownBlock] using hx
    omega
  · rintro (rfl | hx | hx)
    · rw [hF.t] at g
      simp only [tobj, Option.some.injEq, Obj.cells.injEq] at g
      exact a1 g.2.1.symm
    · exact own_ne hF.nodes g a2 hx
    · exact own_ne hF.ends g a3 hx
theorem Tab.of {w' : World} {base T : Nat} {s l : Int} {L : Runs} (hbT : base ≤ T) (hL : 0 < L.length) (hL2 : L.length < 16) {nv ev : Value} (hF : Fing w' base T s l nv ev L) : Tab w' base T s l L := by
  obtain ⟨g1, c1, rfl⟩ := own_some hF.nodes hL
  obtain ⟨g2, c2, rfl⟩ := own_some hF.ends hL
  exact ⟨hbT, hL, hL2, g1, c1, g2, c2, hF⟩
theorem Tab.none {w w' : World} {base T : Nat} {s l : Int} {L : Runs} (h : Tab w base T s l L) (k : Kept (fun _ => False) w w') : Tab w' base T s l L := by
  obtain ⟨h1, h2, h3, g1, c1, g2, c2, hF⟩ := h
  exact ⟨h1, h2, h3, g1, c1, g2, c2, hF.kept k (fun _ _ x => x)⟩
theorem Tab.below {w w' : World} {base T : Nat} {s l : Int} {L : Runs} (h : Tab w base T s l L) (k : Below w.heap.size w w') : Tab w' base T s l L := h.none (Kept.of_below k)
theorem Tab.ring {w w' : World} {base T r : Nat} {s l : Int} {L : Runs} {hh : Has} {fl : Bool} {fd pd : Int} (h : Tab w base T s l L) (hR : Ring w r hh fl fd pd) (k : Kept (· = r) w w') : Tab w' base T s l L := by
  obtain ⟨h1, h2, h3, g1, c1, g2, c2, hF⟩ := h
  exact ⟨h1, h2, h3, g1, c1, g2, c2, hF.kept k (fun g hg e => ring_not_in h2 hF hR (e ▸ hg))⟩
theorem Tab.obj {w : World} {base T : Nat} {s l : Int} {L : Runs} (h : Tab w base T s l L) : ∃ nv ev, w.heap[T]? = some (tobj s l nv ev) := by
  obtain ⟨h1, h2, h3, g1, c1, g2, c2, hF⟩ := h
  exact ⟨_, _, hF.t⟩
theorem trim_walk (base T : Nat) (s l : Int) (L : Runs) (w : World) (h : Tab w base T s l L) :
    Calls Yba.prog 30 #[.pointer (some ⟨T, 13, none⟩)] w fun e w' => e = .returned (.tuple #[]) ∧ Tab w' base T s l L ∧ Keep base w w' := by
  have hsz := h.size
  obtain ⟨h1, h2, h3, g1, c1, g2, c2, hF⟩ := h
  have k1 := own_cap hF.nodes
  have k2 := own_cap hF.ends
  have fin : ∀ c1' c2', c1 = c1' → c2 = c2' → Calls Yba.prog 30 #[.pointer (some ⟨T, 13, none⟩)] w (fun e w' => e = .returned (.tuple #[]) ∧ ∃ nv' ev', Fing w' base T s l nv' ev' L ∧ Kept (In T (.slice (some ⟨g1, 0, none⟩) L.length c1') (.slice (some ⟨g2, 0, none⟩) L.length c2')) w w') →
      Calls Yba.prog 30 #[.pointer (some ⟨T, 13, none⟩)] w fun e w' => e = .returned (.tuple #[]) ∧ Tab w' base T s l L ∧ Keep base w w' := by
    rintro _ _ rfl rfl hc
    refine Calls.mono hc ?_
    rintro e w' ⟨he, nv', ev', hF', hk⟩
    exact ⟨he, Tab.of h1 h2 h3 hF', Keep.of_in h1 h2 hF hk⟩
  rcases Nat.lt_or_ge L.length c1 with q1 | q1 <;> rcases Nat.lt_or_ge L.length c2 with q2 | q2
  · exact fin c1 c2 rfl rfl (trim_ne base T g1 g2 c1 c2 s l L h2 (by omega) q1 q2 w hsz hF)
  · have e2 : c2 = L.length := by omega
    exact fin c1 L.length rfl e2 (trim_n base T g1 g2 c1 s l L h2 (by omega) q1 w hsz (e2 ▸ hF))
  · have e1 : c1 = L.length := by omega
    exact fin L.length c2 e1 rfl (trim_e base T g1 g2 c2 s l L h2 (by omega) q2 w hsz (e1 ▸ hF))
  · have e1 : c1 = L.length := by omega
    have e2 : c2 = L.length := by omega
    exact fin L.length L.length e1 e2 (trim_no base T g1 g2 s l L w hsz (by rw [e1, e2] at hF; exact hF))
end Go.Proofs.Ybulkcmvc
