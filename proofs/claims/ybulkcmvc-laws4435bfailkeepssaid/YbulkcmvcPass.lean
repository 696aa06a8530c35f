import Derived.Test.YbulkcmvcTab
import Derived.Test.YbulkcmvcPlain
import Derived.WalkKit
import Derived.WalkSpells
import Derived.BigRegion
import Derived.BigQuiet
import Derived.Deep.QuietTactic
import Derived.Deep.RegionHeld3
import Derived.Handy
namespace Go.Proofs.Ybulkcmvc
open Go.RowKit
/-- the table in memory, a pass standing at finger i. -/
def TT (w : World) (base T s : Nat) (l : Int) (h : Has) (full : Bool) (i : Nat) : Prop := ∃ L, Tab w base T s l L ∧ Tb h s full i L
theorem TT.of0 {w w' : World} {base T s : Nat} {l : Int} {h : Has} {full : Bool} {i : Nat} (t : TT w base T s l h full i) (k : Kept (fun _ => False) w w') : TT w' base T s l h full i := by
  obtain ⟨L, a, b⟩ := t
  exact ⟨L, a.none k, b⟩
theorem TT.below {w w' : World} {base T s : Nat} {l : Int} {h : Has} {full : Bool} {i : Nat} (t : TT w base T s l h full i) (k : Below w.heap.size w w') : TT w' base T s l h full i := t.of0 (Kept.of_below k)
theorem TT.drewN {w : World} {base T s : Nat} {l : Int} {h : Has} {full : Bool} {i n : Nat} (t : TT w base T s l h full i) : TT (w.drewN n) base T s l h full i := t.of0 ((Kept.refl _ w).drewN)
theorem TT.drew {w : World} {base T s : Nat} {l : Int} {h : Has} {full : Bool} {i : Nat} (t : TT w base T s l h full i) : TT w.drew base T s l h full i := t.of0 ((Kept.refl _ w).drew)
theorem TT.alloc {w : World} {base T s : Nat} {l : Int} {h : Has} {full : Bool} {i : Nat} (t : TT w base T s l h full i) (o : Obj) : TT (w.alloc o) base T s l h full i := t.of0 ((Kept.refl _ w).alloc o)
theorem TT.ring {w w' : World} {base T s r : Nat} {l : Int} {h h' : Has} {full fl : Bool} {fd pd : Int} {i : Nat} (t : TT w base T s l h full i) (hR : Ring w r h' fl fd pd) (k : Kept (· = r) w w') : TT w' base T s l h full i := by
  obtain ⟨L, a, b⟩ := t
  exact ⟨L, a.ring hR k, b⟩
theorem TT.obj {w : World} {base T s : Nat} {l : Int} {h : Has} {full : Bool} {i : Nat} (t : TT w base T s l h full i) : ∃ nv ev, w.heap[T]? = some (tobj s l nv ev) := by
  obtain ⟨L, a, b⟩ := t
  exact a.obj
theorem TT.size {w : World} {base T s : Nat} {l : Int} {h : Has} {full : Bool} {i : Nat} (t : TT w base T s l h full i) : base ≤ w.heap.size := by
  obtain ⟨L, a, b⟩ := t
  exact a.size
theorem TT.lock {w : World} {base T s : Nat} {h : Has} {full : Bool} {i : Nat} (t : TT w base T s 0 h full i) :
    Calls Yba.prog 24 #[.pointer (some ⟨T, 11, none⟩)] w fun e w' => e = .returned (.tuple #[]) ∧ TT w' base T s 1 h full i ∧ Keep base w w' ∧ Kept (· = T) w w' := by
  obtain ⟨L, ⟨h1, h2, h3, g1, c1, g2, c2, hF⟩, b⟩ := t
  refine Calls.mono (lock_t T base s _ _ L w hF) ?_
  rintro e w' ⟨he, hF', hk⟩
  exact ⟨he, ⟨L, ⟨h1, h2, h3, g1, c1, g2, c2, hF'⟩, b⟩, Keep.of_in h1 h2 hF ⟨hk.os, hk.tape, hk.output, hk.size, fun k a c => hk.block k a (fun e => c (.inl e))⟩, hk⟩
theorem TT.unlock {w : World} {base T s : Nat} {h : Has} {full : Bool} {i : Nat} (t : TT w base T s 1 h full i) :
    Calls Yba.prog 26 #[.pointer (some ⟨T, 11, none⟩)] w fun e w' => e = .returned (.tuple #[]) ∧ TT w' base T s 0 h full i ∧ Keep base w w' ∧ Kept (· = T) w w' := by
  obtain ⟨L, ⟨h1, h2, h3, g1, c1, g2, c2, hF⟩, b⟩ := t
  refine Calls.mono (unlock_t T base s _ _ L w hF) ?_
  rintro e w' ⟨he, hF', hk⟩
  exact ⟨he, ⟨L, ⟨h1, h2, h3, g1, c1, g2, c2, hF'⟩, b⟩, Keep.of_in h1 h2 hF ⟨hk.os, hk.tape, hk.output, hk.size, fun k a c => hk.block k a (fun e => c (.inl e))⟩, hk⟩
theorem TT.trim {w : World} {base T s : Nat} {l : Int} {h : Has} {full : Bool} {i : Nat} (t : TT w base T s l h full i) :
    Calls Yba.prog 30 #[.pointer (some ⟨T, 13, none⟩)] w fun e w' => e = .returned (.tuple #[]) ∧ TT w' base T s l h full i ∧ Keep base w w' := by
  obtain ⟨L, a, b⟩ := t
  refine Calls.mono (trim_walk base T s l L w a) ?_
  rintro e w' ⟨he, a', hk⟩
  exact ⟨he, ⟨L, a', b⟩, hk⟩
theorem TT.fill {w : World} {base T s : Nat} {l : Int} {h : Has} {full : Bool} {i : Nat} (hs : s < 256) (hh : h s = true) (hi : i < 8) (t : TT w base T s l h full i) :
    Calls Yba.prog 29 #[.pointer (some ⟨T, 13, none⟩), .int .i64 i, .int .i64 (RR s (F h s i)), peerV (F h s i)] w fun e w' => e = .returned (.tuple #[]) ∧ TT w' base T s l h full (RR s (F h s i)) ∧ Keep base w w' := by
  have hsz := t.size
  obtain ⟨L, hT, b⟩ := t
  have hT' := hT
  obtain ⟨h1, h2, h3, g1, c1, g2, c2, hF⟩ := hT
  have hgt := RR_gt hs hh hi
  have h8 := RR_le s (F h s i)
  cases full
  · obtain ⟨L0, c0, e⟩ := b
    simp only [Bool.false_eq_true, if_false, hi, if_true] at e
    subst e
    have hl := c0.len hs hh
    have he := c0.ends hs hh
    have hn := c0.nodes hs hh
    have hll : (L0 ++ [((none : Option Nat), 8)]).length = L0.length + 1 := by simp
    rw [hll] at hF
    have hk0 : L0.length = 0 → i = 0 := hl.2.2
    have c' := Ch.snoc c0 hi
    rcases Nat.lt_or_ge (RR s (F h s i)) 8 with q | q
    · refine Calls.mono (fill_mid base T L0.length g1 c1 g2 c2 i (RR s (F h s i)) (F h s i) s l L0 rfl (by omega) hgt q w he.1 hk0 he.2.1 (hn.1 hi) hsz hF) ?_
      rintro e w' ⟨he, nv', ev', hF', hk⟩
      refine ⟨he, ⟨_, Tab.of h1 (by simp) (by simp; omega) hF', ⟨_, c', ?_⟩⟩, Keep.of_in (L := L0 ++ [(none, 8)]) h1 h2 (by rw [hll]; exact hF) (by rw [hll]; exact hk)⟩
      simp [q]
    · have q8 : RR s (F h s i) = 8 := by omega
      rw [q8] at c' ⊢
      refine Calls.mono (fill_end base T L0.length g1 c1 g2 c2 i (F h s i) s l L0 rfl (by omega) hi w he.1 hk0 he.2.1 (hn.1 hi) hsz hF) ?_
      rintro e w' ⟨he, nv', ev', hF', hk⟩
      refine ⟨he, ⟨_, Tab.of h1 (by simp) (by simp; omega) hF', ⟨_, c', ?_⟩⟩, Keep.of_in (L := L0 ++ [(none, 8)]) h1 h2 (by rw [hll]; exact hF) (by rw [hll]; exact hk)⟩
      simp
  · obtain ⟨k, k1, k2, k3, k4⟩ := b.at_full hs hh hi
    obtain ⟨L0, rest', c0, e, c⟩ := b.full_parts hs hh hi
    refine Calls.mono (fill_same base T L.length g1 c1 g2 c2 k i (RR s (F h s i)) (F h s i) s l L _ rfl (by omega) k1 k4 hgt h8 k2 k3 w hF) ?_
    rintro e' w' ⟨he, hb⟩
    refine ⟨he, ⟨L, hT'.below hb, ⟨_, Ch.snoc c0 hi, ?_⟩⟩, Keep.of_below hb⟩
    simp only [if_true]
    exact ⟨rest', by rw [e]; simp, c⟩
theorem TT.reach {w : World} {base T s : Nat} {l : Int} {h : Has} {full : Bool} {i j : Nat} (hs : s < 256) (hh : h s = true) (hi : i < 8) (t : TT w base T s l h full j) :
    Calls Yba.prog 28 #[.pointer (some ⟨T, 0, none⟩), .int .i64 i, peerV (F h s i)] w fun e w' => e = .returned (.int .i64 (RR s (F h s i))) ∧ Below w.heap.size w w' := by
  obtain ⟨nv, ev, hT⟩ := t.obj
  have := RR_gt hs hh hi
  have hp := nxt_lt h ((s + 2 ^ i) % 256)
  exact reach_walk T s l (F h s i) i nv ev (by omega) (by unfold F; omega) this w hT
theorem TT.target {w : World} {base T s : Nat} {l : Int} {h : Has} {full : Bool} {i j : Nat} (hs : s < 256) (hi : i < 8) (t : TT w base T s l h full j) :
    Calls Yba.prog 34 #[.pointer (some ⟨T, 0, none⟩), .int .i64 i] w fun e w' => e = .returned (idV (((s + 2 ^ i) % 256 : Nat) : Int)) ∧ Below w.heap.size w w' := by
  obtain ⟨nv, ev, hT⟩ := t.obj
  have := target_walk T s l nv ev i hi (by omega) w hT
  simpa using this
/-- run i, asked of the table. -/
theorem TT.run {w : World} {base T s : Nat} {l : Int} {L : Runs} {i k : Nat} {q : Option Nat} (hT : Tab w base T s l L) (hi : i < 8) (ha : At L i k q) :
    Calls Yba.prog 36 #[.pointer (some ⟨T, 13, none⟩), .int .i64 i] w fun e w' => e = .returned (.int .i64 k) ∧ w' = w := by
  obtain ⟨h1, h2, h3, g1, c1, g2, c2, hF⟩ := hT
  obtain ⟨a1, a2, a3, a4⟩ := ha
  refine run_walk T 13 g2 L.length c2 k i (fun j => ((L.getD j (none, 0)).2 : Int)) (by omega) (by omega) (by omega) (fun j hj => ?_) (fun j hj hj2 => ?_) w (by rw [cell_t hF.t]; rfl) (fun j hj => ?_)
  · have := a2 j hj; omega
  · have := a3 j hj hj2; omega
  · rw [hF.end_at j hj, List.getD_eq_getElem?_getD, List.getElem?_eq_getElem hj]
    rfl
end Go.Proofs.Ybulkcmvc
