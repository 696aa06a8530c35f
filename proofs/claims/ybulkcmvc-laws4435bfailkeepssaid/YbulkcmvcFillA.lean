import Derived.Test.YbulkcmvcFing
import Derived.WalkKit
import Derived.WalkSpells
import Derived.BigRegion
import Derived.BigQuiet
import Derived.Deep.QuietTactic
import Derived.Deep.RegionHeld3
import Derived.Handy
namespace Go.Proofs.Ybulkcmvc
open Go.RowKit
set_option maxRecDepth 100000 in
set_option maxHeartbeats 1000000 in
/-- (*fingerRuns).fill where the fingers hold p already. -/
theorem fill_same (base T n g1 c1 g2 c2 k frm to p : Nat) (s l : Int) (L : Runs) (e0 : Nat) (hn : L.length = n) (hn2 : n < 256) (hk : k < n) (hL : L[k]? = some (some p, e0)) (hft : frm < to) (hto : to ≤ 8)
    (hlo : ∀ j, j < k → (L.getD j (none, 0)).2 ≤ frm) (hhi : ∀ j, k ≤ j → j < n → to ≤ (L.getD j (none, 0)).2) (w : World)
    (hF : Fing w base T s l (.slice (some ⟨g1, 0, none⟩) n c1) (.slice (some ⟨g2, 0, none⟩) n c2) L) :
    Calls Yba.prog 29 #[.pointer (some ⟨T, 13, none⟩), .int .i64 frm, .int .i64 to, peerV p] w fun e w' => e = .returned (.tuple #[]) ∧ Below w.heap.size w w' := by
  subst hn
  have hkL : L[k] = (some p, e0) := by rw [List.getElem?_eq_getElem hk] at hL; simpa using hL
  have t13 : w.cell? ⟨T, 13, none⟩ = some (.slice (some ⟨g1, 0, none⟩) L.length c1) := by rw [cell_t hF.t]; rfl
  have t14 : w.cell? ⟨T, 14, none⟩ = some (.slice (some ⟨g2, 0, none⟩) L.length c2) := by rw [cell_t hF.t]; rfl
  have n0 := hF.node_at k hk 0 (by decide)
  have n1 := hF.node_at k hk 1 (by decide)
  have n2 := hF.node_at k hk 2 (by decide)
  have n3 := hF.node_at k hk 3 (by decide)
  have n4 := hF.node_at k hk 4 (by decide)
  have n5 := hF.node_at k hk 5 (by decide)
  rw [hkL] at n0 n1 n2 n3 n4 n5
  simp only [pcells, pw, pb, List.getElem?_cons_zero, List.getElem?_cons_succ, Nat.add_zero] at n0 n1 n2 n3 n4 n5
  have qT := lt_t hF.t
  have q1 := (own_cap hF.nodes).2.2.2
  have HF : Hid (Fing w base T s l (.slice (some ⟨g1, 0, none⟩) L.length c1) (.slice (some ⟨g2, 0, none⟩) L.length c2) L) := hF
  have hrun : ∀ i w', frm ≤ i → i < to → Below w.heap.size w w' → Calls Yba.prog 36 #[.pointer (some ⟨T, 13, none⟩), .int .i64 (i : Nat)] w' fun e w'' => e = .returned (.int .i64 k) ∧ w'' = w' := by
    intro i w' h1 h2 hb
    have hF' := hF.kept (Kept.of_below (M := fun _ => False) hb) (fun _ _ x => x)
    refine run_walk T 13 g2 L.length c2 k i (fun j => ((L.getD j (none, 0)).2 : Nat)) hn2 (by omega) (by omega) ?_ ?_ w' ?_ ?_
    · intro j hj; have := hlo j hj; omega
    · intro j hj hjn; have := hhi j hj hjn; omega
    · rw [cell_t hF'.t]; rfl
    · intro j hj
      rw [hF'.end_at j hj]
      simp [List.getD_eq_getElem?_getD, List.getElem?_eq_getElem hj]
  have HR : Hid _ := hrun
  have ee := eqpeer p p
  have ee' : ((p : Int) == (p : Int)) = true := by simp
  have ek : ((k : Int) == (k : Int)) = true := by simp
  have b1 : (k : Int) < (L.length : Int) := by omega
  have b2 : ((to - 1 : Nat) : Int) = (to : Int) - 1 := by omega
  have HB : Hid (((to - 1 : Nat) : Int) = (to : Int) - 1) := b2
  clear hF hrun hlo hhi hkL hL b2
  go_enter Yba.func29, Yba.ntmps29
  go_wp2_with fail
  refine (HR.out frm _ (Nat.le_refl _) hft (by go_grown)).mono ?_
  rintro e w1 ⟨rfl, rfl⟩
  go_wp2_with fail
  rw [← HB.out]
  refine (HR.out (to - 1) _ (by omega) (by omega) (by go_grown)).mono ?_
  rintro e w1 ⟨rfl, rfl⟩
  go_wp2
  go_quiet (fail)
  go_wp2
  go_returns
  exact ⟨rfl, below_dn2 (by go_grown)⟩

/-- (*fingerRuns).start. -/
theorem start_walk (T o g n c k frm : Nat) (hn : n < 256) (hf : frm < 256) (hk : k ≤ n) (w : World) (h1 : w.cell? ⟨T, o + 1, none⟩ = some (.slice (some ⟨g, 0, none⟩) n c)) (h0 : k = 0 → frm = 0) (hc : 0 < k → w.cell? ⟨g, k - 1, none⟩ = some (.int .u8 frm)) :
    Calls Yba.prog 40 #[.pointer (some ⟨T, o, none⟩), .int .i64 k] w fun e w' => e = .returned (.int .i64 frm) ∧ w' = w := by
  cases k with
  | zero =>
    obtain rfl := h0 rfl
    clear hc h0
    go_enter Yba.func40, Yba.ntmps40
    go_wp2
    go_ret
    exact ⟨rfl, rfl⟩
  | succ k =>
    have hc' := hc (by omega)
    rw [show k + 1 - 1 = k by omega] at hc'
    have b1 : (((k + 1 : Nat) : Int) == 0) = false := by simp; omega
    have b1' : (((k : Int) + 1) == 0) = false := by simp; omega
    have b2 : (k : Int) < (n : Int) := by omega
    have b3 : wrap64 (k : Int) = k := by unfold wrap64; omega
    have b4 : wrap64 (frm : Int) = frm := by unfold wrap64; omega
    clear hc h0
    go_enter Yba.func40, Yba.ntmps40
    go_wp2
    go_ret
    exact ⟨rfl, rfl⟩
end Go.Proofs.Ybulkcmvc
