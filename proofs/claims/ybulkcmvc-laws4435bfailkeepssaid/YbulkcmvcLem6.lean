import Derived.Test.YbulkcmvcLook
import Derived.Test.YbulkcmvcRingN
namespace Go.Proofs.Ybulkcmvc
open Go.RowKit

theorem ds_last {h : Has} {s D : Nat} {n : Nat} (hn : (ds h s D).length = n + 1) : (ds h s D).getD n 0 ∈ ds h s D ∧ ∀ d, d ∈ ds h s D → d ≤ (ds h s D).getD n 0 := by
  have hl : n < (ds h s D).length := by omega
  have e : (ds h s D).getD n 0 = (ds h s D)[n] := by rw [List.getD_eq_getElem?_getD, List.getElem?_eq_getElem hl]; rfl
  refine ⟨by rw [e]; exact List.getElem_mem hl, fun d hd => ?_⟩
  obtain ⟨j, hj⟩ := List.getElem?_of_mem hd
  obtain ⟨hjl, hje⟩ := List.getElem?_eq_some_iff.1 hj
  rw [e]
  rcases Nat.lt_or_ge j n with q | q
  · have := List.pairwise_iff_getElem.1 (ds_sorted h s D) j n hjl hl q
    omega
  · have : j = n := by omega
    subst this
    omega
theorem cov_iff {h : Has} {s D c n i : Nat} (st : Stop h s D c) (hi : i < 8) (hn : (ds h s D).length = n + 1) : 2 ^ i ≤ (ds h s D).getD n 0 ↔ i < c := by
  obtain ⟨l1, l2⟩ := ds_last hn
  constructor
  · intro hd
    rcases Nat.lt_or_ge i c with q | q
    · exact q
    · have := st.2.1 (by omega) _ l1
      have : 2 ^ c ≤ 2 ^ i := Nat.pow_le_pow_right (by decide) q
      omega
  · intro hc
    obtain ⟨d, hd, h2⟩ := st.2.2 (by omega)
    have := l2 d hd
    have : 2 ^ i ≤ 2 ^ (c - 1) := Nat.pow_le_pow_right (by decide) (by omega)
    omega
theorem cov_none {h : Has} {s D c : Nat} (st : Stop h s D c) (hn : (ds h s D).length = 0) : c = 0 := by
  rcases Nat.eq_zero_or_pos c with q | q
  · exact q
  · obtain ⟨d, hd, _⟩ := st.2.2 q
    rw [List.length_eq_zero_iff.1 hn] at hd
    cases hd
theorem Tb.open6 {h : Has} {s c : Nat} (hs : s < 256) (hh : h s = true) {L : Runs} (b : Tb h s false c L) (hc : c ≤ 8) :
    (∀ k, k < L.length → (L.getD k (none, 0)).2 ≤ 8) ∧ (0 < L.length → (L.getD (L.length - 1) (none, 0)).2 = 8) ∧ (∀ k, k + 1 < L.length → (L.getD k (none, 0)).2 < (L.getD (k + 1) (none, 0)).2) ∧ (∀ k, k + 1 < L.length → (L.getD k (none, 0)).1 ≠ (L.getD (k + 1) (none, 0)).1) ∧
    ∀ i, i < 8 → ∃ k, At L i k (if i < c then some (F h s i) else none) := by
  have b0 := b
  obtain ⟨L0, c0, e⟩ := b
  simp only [Bool.false_eq_true, if_false] at e
  have he := c0.ends hs hh
  have hn := c0.nodes hs hh
  have hl := c0.len hs hh
  by_cases h8 : c < 8
  · rw [if_pos h8] at e
    subst e
    refine ⟨fun k hk => ?_, fun _ => ?_, fun k hk => ?_, fun k hk => ?_, fun i hi => ?_⟩
    · rw [getD_snoc]
      split
      · have := he.1 k (by assumption); omega
      · simp at hk; rw [if_pos (by omega)]; exact Nat.le_refl _
    · simp only [List.length_append, List.length_singleton]
      rw [getD_snoc, if_neg (by omega), if_pos (by omega)]
    · simp only [List.length_append, List.length_singleton] at hk
      rw [getD_snoc, getD_snoc, if_pos (by omega)]
      split
      · exact he.2.2 k (by assumption)
      · rw [if_pos (by omega)]
        have := he.1 k (by omega)
        simp only
        omega
    · simp only [List.length_append, List.length_singleton] at hk
      rw [getD_snoc, getD_snoc, if_pos (by omega)]
      split
      · exact hn.2.1 k (by assumption)
      · rw [if_pos (by omega)]
        obtain ⟨p, _, hp⟩ := hn.2.2 k (by omega)
        rw [hp]
        simp
    · by_cases hic : i < c
      · rw [if_pos hic]
        obtain ⟨k, k1, k2, k3, k4⟩ := c0.at hs hh i hic
        refine ⟨k, by simp; omega, fun j hj => ?_, fun j hj hj2 => ?_, ?_⟩
        · rw [getD_snoc, if_pos (by omega)]; exact k2 j hj
        · rw [getD_snoc]
          split
          · have := c0.mono hs hh (j - k) k (by omega)
            rw [show k + (j - k) = j by omega] at this
            omega
          · simp at hj2
            rw [if_pos (by omega)]
            exact hi
        · rw [getD_snoc, if_pos k1]; exact k4
      · rw [if_neg hic]
        exact b0.at_none hs hh hi (by omega)
  · have : c = 8 := by omega
    subst this
    rw [if_neg h8] at e
    subst e
    refine ⟨he.1, he.2.1, he.2.2, hn.2.1, fun i hi => ?_⟩
    rw [if_pos hi]
    obtain ⟨k, k1, k2, k3, k4⟩ := c0.at hs hh i hi
    refine ⟨k, k1, k2, fun j hj hj2 => ?_, k4⟩
    have := c0.mono hs hh (j - k) k (by omega)
    rw [show k + (j - k) = j by omega] at this
    omega
theorem TT.bruns6 {w : World} {base T s c : Nat} {l : Int} {h : Has} (hs : s < 256) (hh : h s = true) (hc : c ≤ 8) (t : TT w base T s l h false c) :
    Calls Yba.prog 15 #[.pointer (some ⟨T, 13, none⟩)] w fun e w' => e = .returned (.bool true) ∧ Kept (fun _ => False) w w' := by
  obtain ⟨L, ⟨h1, h2, h3, g1, c1, g2, c2, hF⟩, b⟩ := t
  obtain ⟨b1, b2, b3, b4, b5⟩ := b.open6 hs hh hc
  exact bruns_walk base T g1 c1 g2 c2 s l L h2 h3 b3 b4 (b2 h2) w hF
theorem TT.bat6 {w : World} {base T s i c : Nat} {l : Int} {h : Has} (hs : s < 256) (hh : h s = true) (hc : c ≤ 8) (hi : i < 8) (t : TT w base T s l h false c) :
    Calls Yba.prog 17 #[.pointer (some ⟨T, 13, none⟩), .int .i64 i] w fun e w' => e = .returned (if i < c then peerV (F h s i) else zeroPeer) ∧ Below w.heap.size w w' := by
  obtain ⟨L, ⟨h1, h2, h3, g1, c1, g2, c2, hF⟩, b⟩ := t
  obtain ⟨b1, b2, b3, b4, b5⟩ := b.open6 hs hh hc
  obtain ⟨k, hk⟩ := b5 i hi
  have := bat_walk base T g1 c1 g2 c2 i k _ s l L h3 b1 hi hk w hF
  by_cases q : i < c
  · rw [if_pos q] at this ⊢; exact this
  · rw [if_neg q] at this ⊢; exact this
theorem ring_new6 {X : World} {r : Nat} {cs : Array Value} {h : Has} (hr : X.heap[r]? = some (.cells ((Array.foldl (fun acc x => acc.setIfInBounds x.snd x.fst) Yba.zeroCells49 cs.zipIdx 0 256).setIfInBounds 256 (.bool true)) 49 (0, 0))) (hc : cs.size = 256) (hk : ∀ k, k < 256 → cs[k]? = some (.bool (h k))) : Ring X r h true 0 0 := by
  obtain ⟨a, b⟩ := folda cs Yba.zeroCells49 hc (by rw [zero49]; simp)
  have hz : Yba.zeroCells49.size = 259 := by rw [zero49]; simp
  generalize Array.foldl (fun (acc : Array Value) (x : Value × Nat) => acc.setIfInBounds x.snd x.fst) Yba.zeroCells49 cs.zipIdx 0 256 = z at hr a b
  have hcell : ∀ k, X.cell? ⟨r, k, none⟩ = (z.setIfInBounds 256 (.bool true))[k]? := fun k => by simp [World.cell?, hr]
  refine ⟨lt_t hr, fun k hk' => ?_, ?_, ?_, ?_, fun o => by simp [World.frozen?, hr]⟩
  · rw [hcell, Array.getElem?_setIfInBounds, if_neg (by omega), b k, if_pos hk']; exact hk k hk'
  · rw [hcell, Array.getElem?_setIfInBounds, if_pos rfl, if_pos (by omega)]
  · rw [hcell, Array.getElem?_setIfInBounds, if_neg (by omega), b 257, if_neg (by omega), zero49]; simp
  · rw [hcell, Array.getElem?_setIfInBounds, if_neg (by omega), b 258, if_neg (by omega), zero49]; simp
end Go.Proofs.Ybulkcmvc
