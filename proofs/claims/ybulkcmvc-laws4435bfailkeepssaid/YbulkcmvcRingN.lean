import Derived.Test.YbulkcmvcNewT
namespace Go.Proofs.Ybulkcmvc
theorem foldz (l : List Value) : ∀ (o : Nat) (z : Array Value), o + l.length ≤ z.size → ((l.zipIdx o).foldl (fun acc x => acc.setIfInBounds x.2 x.1) z).size = z.size ∧ ∀ k, ((l.zipIdx o).foldl (fun acc x => acc.setIfInBounds x.2 x.1) z)[k]? = if o ≤ k ∧ k < o + l.length then l[k - o]? else z[k]? := by
  induction l with
  | nil =>
    intro o z _
    simp
    intro k h1 h2
    omega
  | cons v l ih =>
    intro o z hz
    simp only [List.zipIdx_cons, List.foldl_cons, List.length_cons] at hz ⊢
    obtain ⟨a, b⟩ := ih (o + 1) (z.setIfInBounds o v) (by simp; omega)
    refine ⟨by rw [a]; simp, fun k => ?_⟩
    rw [b k, Array.getElem?_setIfInBounds]
    by_cases e : o = k
    · subst e
      have h1 : ¬ (o + 1 ≤ o ∧ o < o + 1 + l.length) := by omega
      have h2 : o ≤ o ∧ o < o + (l.length + 1) := by omega
      have h3 : o < z.size := by omega
      simp [h1, h2, h3]
    · by_cases g : o + 1 ≤ k ∧ k < o + 1 + l.length
      · have g2 : o ≤ k ∧ k < o + (l.length + 1) := by omega
        simp only [g, g2, and_self, if_true]
        obtain ⟨j, rfl⟩ : ∃ j, k = o + 1 + j := ⟨k - (o + 1), by omega⟩
        rw [show o + 1 + j - (o + 1) = j by omega, show o + 1 + j - o = j + 1 by omega, List.getElem?_cons_succ]
      · have g2 : ¬ (o ≤ k ∧ k < o + (l.length + 1)) := by omega
        simp only [g, g2, e, if_false]
theorem folda (cs z : Array Value) (hc : cs.size = 256) (hz : 256 ≤ z.size) : (Array.foldl (fun acc x => acc.setIfInBounds x.snd x.fst) z cs.zipIdx 0 256).size = z.size ∧ ∀ k, (Array.foldl (fun acc x => acc.setIfInBounds x.snd x.fst) z cs.zipIdx 0 256)[k]? = if k < 256 then cs[k]? else z[k]? := by
  have e : Array.foldl (fun (acc : Array Value) (x : Value × Nat) => acc.setIfInBounds x.snd x.fst) z cs.zipIdx 0 256 = (cs.toList.zipIdx 0).foldl (fun acc x => acc.setIfInBounds x.2 x.1) z := by
    have h1 : cs.zipIdx.size = 256 := by simp [hc]
    rw [← h1, ← Array.foldl_toList, Array.toList_zipIdx]
  rw [e]
  obtain ⟨a, b⟩ := foldz cs.toList 0 z (by simp [hc]; omega)
  refine ⟨a, fun k => ?_⟩
  rw [b k]
  simp [hc]
theorem zero49 : Yba.zeroCells49 = Array.replicate 257 (.bool false) ++ #[.int .i64 0, .int .i64 0] := by kernel_rfl
theorem ring_new {X : World} {r : Nat} {cs : Array Value} {h : Has} (hr : X.heap[r]? = some (.cells (Array.foldl (fun acc x => acc.setIfInBounds x.snd x.fst) Yba.zeroCells49 cs.zipIdx 0 256) 49 (0, 0))) (hc : cs.size = 256) (hk : ∀ k, k < 256 → cs[k]? = some (.bool (h k))) : Ring X r h false 0 0 := by
  obtain ⟨a, b⟩ := folda cs Yba.zeroCells49 hc (by rw [zero49]; simp)
  generalize Array.foldl (fun (acc : Array Value) (x : Value × Nat) => acc.setIfInBounds x.snd x.fst) Yba.zeroCells49 cs.zipIdx 0 256 = z at hr a b
  have hcell : ∀ k, X.cell? ⟨r, k, none⟩ = z[k]? := fun k => by simp [World.cell?, hr]
  refine ⟨lt_t hr, fun k hk' => ?_, ?_, ?_, ?_, fun o => by simp [World.frozen?, hr]⟩
  · rw [hcell, b k, if_pos hk']; exact hk k hk'
  · rw [hcell, b 256, if_neg (by omega), zero49]; simp
  · rw [hcell, b 257, if_neg (by omega), zero49]; simp
  · rw [hcell, b 258, if_neg (by omega), zero49]; simp
end Go.Proofs.Ybulkcmvc
