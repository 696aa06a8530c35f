import Derived.Test.YbulkcmvcFing
namespace Go.Proofs.Ybulkcmvc
/-- how far p lies clockwise of s: 1 to 256. -/
def dst (s p : Nat) : Nat := if p = s then 256 else (p + 256 - s) % 256
theorem dst_bounds {s p : Nat} (hs : s < 256) (hp : p < 256) : 1 ≤ dst s p ∧ dst s p ≤ 256 ∧ (s + dst s p) % 256 = p ∧ (dst s p = 256 ↔ p = s) := by
  unfold dst
  split <;> omega
theorem dst_add {s d : Nat} (hs : s < 256) (h1 : 1 ≤ d) (h2 : d ≤ 256) : dst s ((s + d) % 256) = d := by
  unfold dst
  split <;> omega
theorem far_spec (h : Has) (t : Nat) : ∀ f d, (∃ y, d ≤ y ∧ y < d + f ∧ h ((t + y) % 256) = true) →
    d ≤ far h t d f ∧ far h t d f < d + f ∧ h ((t + far h t d f) % 256) = true ∧ ∀ y, d ≤ y → y < far h t d f → h ((t + y) % 256) = false := by
  intro f
  induction f with
  | zero => rintro d ⟨y, h1, h2, _⟩; omega
  | succ f ih =>
    rintro d ⟨y, h1, h2, h3⟩
    unfold far
    by_cases hd : h ((t + d) % 256) = true
    · simp only [hd, if_true]
      exact ⟨Nat.le_refl _, by omega, trivial, fun y a b => by omega⟩
    · simp only [hd, if_false, Bool.false_eq_true]
      have hy : y ≠ d := fun e => hd (e ▸ h3)
      obtain ⟨a, b, c, e⟩ := ih (d + 1) ⟨y, by omega, by omega, h3⟩
      refine ⟨by omega, by omega, c, fun z z1 z2 => ?_⟩
      rcases Nat.lt_or_ge d z with q | q
      · exact e z q z2
      · have : z = d := by omega
        subst this
        simpa using hd
/-- the node of finger i. -/
def F (h : Has) (s i : Nat) : Nat := nxt h ((s + 2 ^ i) % 256)
def IsF (h : Has) (s i p : Nat) : Prop := p < 256 ∧ h p = true ∧ 2 ^ i ≤ dst s p ∧ ∀ d, 2 ^ i ≤ d → d < dst s p → h ((s + d) % 256) = false
theorem pow8 {i : Nat} (hi : i < 8) : 1 ≤ 2 ^ i ∧ 2 ^ i ≤ 128 := by
  have : i = 0 ∨ i = 1 ∨ i = 2 ∨ i = 3 ∨ i = 4 ∨ i = 5 ∨ i = 6 ∨ i = 7 := by omega
  rcases this with rfl | rfl | rfl | rfl | rfl | rfl | rfl | rfl <;> decide
theorem F_is {h : Has} {s i : Nat} (hs : s < 256) (hh : h s = true) (hi : i < 8) : IsF h s i (F h s i) := by
  obtain ⟨e1, e2⟩ := pow8 hi
  unfold IsF F nxt
  generalize 2 ^ i = e at *
  have hx : h (((s + e) % 256 + (256 - e)) % 256) = true := by
    rw [show ((s + e) % 256 + (256 - e)) % 256 = s by omega]; exact hh
  obtain ⟨a, b, c, d⟩ := far_spec h ((s + e) % 256) 256 0 ⟨256 - e, by omega, by omega, hx⟩
  have hle : far h ((s + e) % 256) 0 256 ≤ 256 - e := by
    rcases Nat.lt_or_ge (256 - e) (far h ((s + e) % 256) 0 256) with q | q
    · rw [d _ (Nat.zero_le _) q] at hx; cases hx
    · exact q
  generalize far h ((s + e) % 256) 0 256 = x at *
  have hp : ((s + e) % 256 + x) % 256 = (s + (e + x)) % 256 := by omega
  rw [hp] at c ⊢
  rw [dst_add hs (by omega) (by omega)]
  refine ⟨by omega, c, by omega, fun y y1 y2 => ?_⟩
  have := d (y - e) (Nat.zero_le _) (by omega)
  rwa [show ((s + e) % 256 + (y - e)) % 256 = (s + y) % 256 by omega] at this
theorem IsF.eq {h : Has} {s i p q : Nat} (hs : s < 256) (hp : IsF h s i p) (hq : IsF h s i q) : p = q := by
  obtain ⟨p1, p2, p3, p4⟩ := hp
  obtain ⟨q1, q2, q3, q4⟩ := hq
  have a := dst_bounds hs p1
  have b := dst_bounds hs q1
  rcases Nat.lt_trichotomy (dst s p) (dst s q) with g | g | g
  · have := q4 _ p3 g
    rw [a.2.2.1, p2] at this; cases this
  · have := a.2.2.1; have := b.2.2.1; rw [g] at *; omega
  · have := p4 _ q3 g
    rw [b.2.2.1, q2] at this; cases this
/-- one past the last finger that p is found for. -/
def RR (s p : Nat) : Nat := R (s : Int) (p : Int)
theorem RR_le (s p : Nat) : RR s p ≤ 8 := R_le _ _
theorem RR_iff {s p j : Nat} (hs : s < 256) (hp : p < 256) (hj : j < 8) : j < RR s p ↔ 2 ^ j ≤ dst s p := by
  have h8 := pow8 hj
  unfold RR R dst
  by_cases e : p = s
  · subst e; simp; omega
  · have e' : ¬ ((p : Int) = (s : Int)) := by omega
    simp only [e, e', if_false]
    have hn : (((p : Int) - (s : Int)) % 256).toNat = (p + 256 - s) % 256 := by omega
    rw [hn]
    have hb := bl_bounds ⟨(p + 256 - s) % 256, by omega⟩ (by simp only; omega)
    simp only at hb
    generalize (p + 256 - s) % 256 = d at hb ⊢
    generalize Lib.bitLen d = b at hb ⊢
    constructor
    · intro h
      have : 2 ^ j ≤ 2 ^ (b - 1) := Nat.pow_le_pow_right (by decide) (by omega)
      omega
    · intro h
      rcases Nat.lt_or_ge j b with q | q
      · exact q
      · have : 2 ^ b ≤ 2 ^ j := Nat.pow_le_pow_right (by decide) q
        omega
theorem RR_gt {h : Has} {s i : Nat} (hs : s < 256) (hh : h s = true) (hi : i < 8) : i < RR s (F h s i) := by
  obtain ⟨a, _, c, _⟩ := F_is hs hh hi
  exact (RR_iff hs a hi).2 c
theorem F_same {h : Has} {s i j : Nat} (hs : s < 256) (hh : h s = true) (hi : i < 8) (hij : i ≤ j) (hj : j < RR s (F h s i)) : F h s j = F h s i := by
  obtain ⟨a, b, c, d⟩ := F_is hs hh hi
  have hj8 : j < 8 := Nat.lt_of_lt_of_le hj (RR_le _ _)
  refine (F_is hs hh hj8).eq hs ⟨a, b, (RR_iff hs a hj8).1 hj, fun x x1 x2 => d x (Nat.le_trans (Nat.pow_le_pow_right (by decide) hij) x1) x2⟩
theorem F_other {h : Has} {s i : Nat} (hs : s < 256) (hh : h s = true) (hi : i < 8) (hj : RR s (F h s i) < 8) : F h s (RR s (F h s i)) ≠ F h s i := by
  intro e
  have a := (F_is hs hh hi).1
  have := (F_is hs hh hj).2.2.1
  rw [e] at this
  have := (RR_iff hs a hj).2 this
  omega
/-- the runs of the fingers before i. -/
inductive Ch (h : Has) (s : Nat) : Runs → Nat → Prop
  | nil : Ch h s [] 0
  | snoc {L : Runs} {i : Nat} : Ch h s L i → i < 8 → Ch h s (L ++ [(some (F h s i), RR s (F h s i))]) (RR s (F h s i))
theorem Ch.len {h : Has} {s : Nat} (hs : s < 256) (hh : h s = true) {L : Runs} {i : Nat} (c : Ch h s L i) : L.length ≤ i ∧ i ≤ 8 ∧ (L.length = 0 → i = 0) := by
  induction c with
  | nil => simp
  | @snoc L i c hi ih =>
    have := RR_gt hs hh hi
    have := RR_le s (F h s i)
    simp only [List.length_append, List.length_singleton]
    omega
theorem getD_snoc (L : Runs) (x : Option Nat × Nat) (k : Nat) : (L ++ [x]).getD k (none, 0) = if k < L.length then L.getD k (none, 0) else if k = L.length then x else (none, 0) := by
  simp only [List.getD_eq_getElem?_getD]
  by_cases q : k < L.length
  · simp [q, List.getElem?_append_left q]
  · rw [List.getElem?_append_right (by omega)]
    by_cases r : k = L.length
    · subst r; simp
    · simp [q, r]
      rw [List.getElem?_eq_none (by simp; omega)]
      rfl
theorem Ch.ends {h : Has} {s : Nat} (hs : s < 256) (hh : h s = true) {L : Runs} {i : Nat} (c : Ch h s L i) :
    (∀ k, k < L.length → (L.getD k (none, 0)).2 ≤ i) ∧ (0 < L.length → (L.getD (L.length - 1) (none, 0)).2 = i) ∧ (∀ k, k + 1 < L.length → (L.getD k (none, 0)).2 < (L.getD (k + 1) (none, 0)).2) := by
  induction c with
  | nil => simp
  | @snoc L i c hi ih =>
    have g := RR_gt hs hh hi
    obtain ⟨a, b, d⟩ := ih
    refine ⟨fun k hk => ?_, fun _ => ?_, fun k hk => ?_⟩
    · rw [getD_snoc]
      split
      · have := a k (by assumption); omega
      · simp only [List.length_append, List.length_singleton] at hk
        rw [if_pos (by omega)]
        exact Nat.le_refl _
    · simp only [List.length_append, List.length_singleton]
      rw [getD_snoc, if_neg (by omega), if_pos (by omega)]
    · simp only [List.length_append, List.length_singleton] at hk
      rw [getD_snoc, getD_snoc, if_pos (by omega)]
      split
      · exact d k (by assumption)
      · rw [if_pos (by omega)]
        have := a k (by omega)
        simp only
        omega
theorem Ch.nodes {h : Has} {s : Nat} (hs : s < 256) (hh : h s = true) {L : Runs} {i : Nat} (c : Ch h s L i) :
    (i < 8 → 0 < L.length → (L.getD (L.length - 1) (none, 0)).1 ≠ some (F h s i)) ∧ (∀ k, k + 1 < L.length → (L.getD k (none, 0)).1 ≠ (L.getD (k + 1) (none, 0)).1) ∧ (∀ k, k < L.length → ∃ p, p < 256 ∧ (L.getD k (none, 0)).1 = some p) := by
  induction c with
  | nil => simp
  | @snoc L i c hi ih =>
    obtain ⟨a, b, d⟩ := ih
    refine ⟨fun h8 _ => ?_, fun k hk => ?_, fun k hk => ?_⟩
    · simp only [List.length_append, List.length_singleton]
      rw [getD_snoc, if_neg (by omega), if_pos (by omega)]
      simp only
      intro e
      injection e with e
      exact F_other hs hh hi h8 e.symm
    · simp only [List.length_append, List.length_singleton] at hk
      rw [getD_snoc, getD_snoc, if_pos (by omega)]
      split
      · exact b k (by assumption)
      · rw [if_pos (by omega)]
        have := a hi (by omega)
        rwa [show L.length - 1 = k by omega] at this
    · simp only [List.length_append, List.length_singleton] at hk
      rw [getD_snoc]
      split
      · exact d k (by assumption)
      · rw [if_pos (by omega)]
        exact ⟨_, nxt_lt _ _, rfl⟩
theorem Ch.at {h : Has} {s : Nat} (hs : s < 256) (hh : h s = true) {L : Runs} {i : Nat} (c : Ch h s L i) :
    ∀ x, x < i → ∃ k, k < L.length ∧ (∀ j, j < k → (L.getD j (none, 0)).2 ≤ x) ∧ x < (L.getD k (none, 0)).2 ∧ (L.getD k (none, 0)).1 = some (F h s x) := by
  induction c with
  | nil => intro x hx; omega
  | @snoc L i c hi ih =>
    intro x hx
    rcases Nat.lt_or_ge x i with q | q
    · obtain ⟨k, k1, k2, k3, k4⟩ := ih x q
      refine ⟨k, by simp; omega, fun j hj => ?_, ?_, ?_⟩
      · rw [getD_snoc, if_pos (by omega)]; exact k2 j hj
      · rw [getD_snoc, if_pos k1]; exact k3
      · rw [getD_snoc, if_pos k1]; exact k4
    · refine ⟨L.length, by simp, fun j hj => ?_, ?_, ?_⟩
      · rw [getD_snoc, if_pos hj]; have := (c.ends hs hh).1 j hj; omega
      · rw [getD_snoc, if_neg (by omega), if_pos rfl]; exact hx
      · rw [getD_snoc, if_neg (by omega), if_pos rfl]; simp only; rw [F_same hs hh hi q hx]
theorem Ch.fn {h : Has} {s : Nat} (hs : s < 256) (hh : h s = true) {L : Runs} {i j : Nat} (c : Ch h s L i) (d : Ch h s L j) : i = j := by
  have a := (c.ends hs hh).2.1
  have b := (d.ends hs hh).2.1
  have e := (c.len hs hh).2.2
  have f := (d.len hs hh).2.2
  rcases Nat.eq_zero_or_pos L.length with q | q
  · have := e q; have := f q; omega
  · have := a q; have := b q; omega
theorem Ch.pre {h : Has} {s : Nat} {M : Runs} {j : Nat} (c : Ch h s M j) : ∀ L rest, M = L ++ rest → rest ≠ [] → ∃ i' rest', Ch h s L i' ∧ i' < 8 ∧ rest = (some (F h s i'), RR s (F h s i')) :: rest' := by
  induction c with
  | nil => intro L rest e hr; simp at e; exact absurd e.2 hr
  | @snoc M i c hi ih =>
    intro L rest e hr
    rcases List.eq_nil_or_concat rest with q | ⟨r', y, rfl⟩
    · exact absurd q hr
    · rw [List.concat_eq_append] at e ⊢
      rw [← List.append_assoc] at e
      obtain ⟨e1, e2⟩ := List.append_inj' e rfl
      rcases Classical.em (r' = []) with q | q
      · subst q
        simp only [List.append_nil] at e1
        simp only [List.cons.injEq, and_true] at e2
        subst e1 e2
        exact ⟨i, [], c, hi, rfl⟩
      · obtain ⟨i', rest', c1, c2, c3⟩ := ih L r' e1 q
        exact ⟨i', rest' ++ [y], c1, c2, by rw [c3]; rfl⟩
/-- the table's runs when a pass stands at finger i: 'full' where an earlier pass had filled the table. -/
def Tb (h : Has) (s : Nat) (full : Bool) (i : Nat) (L : Runs) : Prop := ∃ L0, Ch h s L0 i ∧ if full then ∃ rest, L = L0 ++ rest ∧ Ch h s L 8 else L = if i < 8 then L0 ++ [(none, 8)] else L0
/-- run k of L holds finger i. -/
def At (L : Runs) (i k : Nat) (q : Option Nat) : Prop := k < L.length ∧ (∀ j, j < k → (L.getD j (none, 0)).2 ≤ i) ∧ (∀ j, k ≤ j → j < L.length → i < (L.getD j (none, 0)).2) ∧ (L.getD k (none, 0)).1 = q
theorem Ch.mono {h : Has} {s : Nat} (hs : s < 256) (hh : h s = true) {L : Runs} {i : Nat} (c : Ch h s L i) : ∀ d k, k + d < L.length → (L.getD k (none, 0)).2 ≤ (L.getD (k + d) (none, 0)).2 := by
  intro d
  induction d with
  | zero => intro k _; exact Nat.le_refl _
  | succ d ih =>
    intro k hk
    have := ih k (by omega)
    have := (c.ends hs hh).2.2 (k + d) (by omega)
    rw [show k + (d + 1) = k + d + 1 by omega]
    omega
theorem Tb.start (h : Has) (s : Nat) : Tb h s false 0 [(none, 8)] := ⟨[], .nil, by simp⟩
theorem Tb.again {h : Has} {s : Nat} {L : Runs} (c : Ch h s L 8) : Tb h s true 0 L := ⟨[], .nil, by simp [c]⟩
theorem Tb.done {h : Has} {s : Nat} {full : Bool} {L : Runs} (c : Tb h s full 8 L) : Ch h s L 8 := by
  obtain ⟨L0, c0, hc⟩ := c
  cases full
  · simp at hc; exact hc ▸ c0
  · simp only [if_true] at hc
    obtain ⟨rest, e, c⟩ := hc
    exact c
theorem Tb.full_parts {h : Has} {s : Nat} (hs : s < 256) (hh : h s = true) {i : Nat} {L : Runs} (hi : i < 8) (c : Tb h s true i L) : ∃ L0 rest', Ch h s L0 i ∧ L = L0 ++ (some (F h s i), RR s (F h s i)) :: rest' ∧ Ch h s L 8 := by
  obtain ⟨L0, c0, hc⟩ := c
  simp only [if_true] at hc
  obtain ⟨rest, e, c⟩ := hc
  have hr : rest ≠ [] := by
    rintro rfl
    rw [List.append_nil] at e
    subst e
    have := c0.fn hs hh c
    omega
  obtain ⟨i', rest', c1, c2, c3⟩ := c.pre L0 rest e hr
  have := c0.fn hs hh c1
  subst this
  exact ⟨L0, rest', c0, by rw [e, c3], c⟩
theorem Tb.len {h : Has} {s : Nat} (hs : s < 256) (hh : h s = true) {full : Bool} {i : Nat} {L : Runs} (c : Tb h s full i L) : L.length < 16 := by
  obtain ⟨L0, c0, hc⟩ := c
  have := c0.len hs hh
  cases full
  · simp only [Bool.false_eq_true, if_false] at hc
    rw [hc]
    split <;> simp <;> omega
  · simp only [if_true] at hc
    obtain ⟨rest, e, c⟩ := hc
    have := c.len hs hh
    omega
theorem Tb.at_full {h : Has} {s : Nat} (hs : s < 256) (hh : h s = true) {i : Nat} {L : Runs} (hi : i < 8) (c : Tb h s true i L) :
    ∃ k, k < L.length ∧ (∀ j, j < k → (L.getD j (none, 0)).2 ≤ i) ∧ (∀ j, k ≤ j → j < L.length → RR s (F h s i) ≤ (L.getD j (none, 0)).2) ∧ L[k]? = some (some (F h s i), RR s (F h s i)) := by
  obtain ⟨L0, rest', c0, e, c⟩ := c.full_parts hs hh hi
  have hk : L[L0.length]? = some (some (F h s i), RR s (F h s i)) := by rw [e]; simp
  have hd : L.getD L0.length (none, 0) = (some (F h s i), RR s (F h s i)) := by rw [List.getD_eq_getElem?_getD, hk]; rfl
  refine ⟨L0.length, by rw [e]; simp, fun j hj => ?_, fun j h1 h2 => ?_, hk⟩
  · have := (c0.ends hs hh).1 j hj
    rw [List.getD_eq_getElem?_getD] at this
    rw [e, List.getD_eq_getElem?_getD, List.getElem?_append_left hj]
    exact this
  · have := c.mono hs hh (j - L0.length) L0.length (by omega)
    rw [show L0.length + (j - L0.length) = j by omega, hd] at this
    exact this
theorem Tb.at_none {h : Has} {s : Nat} (hs : s < 256) (hh : h s = true) {c i : Nat} {L : Runs} (hi : i < 8) (hc : c ≤ i) (b : Tb h s false c L) : ∃ k, At L i k none := by
  obtain ⟨L0, c0, e⟩ := b
  simp only [Bool.false_eq_true, if_false] at e
  rw [if_pos (by omega)] at e
  subst e
  refine ⟨L0.length, by simp, fun j hj => ?_, fun j h1 h2 => ?_, ?_⟩
  · rw [getD_snoc, if_pos hj]; have := (c0.ends hs hh).1 j hj; omega
  · simp at h2; rw [getD_snoc, if_neg (by omega), if_pos (by omega)]; exact hi
  · rw [getD_snoc, if_neg (by omega), if_pos rfl]
theorem Tb.at {h : Has} {s : Nat} (hs : s < 256) (hh : h s = true) {full : Bool} {i : Nat} {L : Runs} (hi : i < 8) (b : Tb h s full i L) : ∃ k, At L i k (if full then some (F h s i) else none) := by
  cases full
  · exact b.at_none hs hh hi (Nat.le_refl _)
  · obtain ⟨k, k1, k2, k3, k4⟩ := b.at_full hs hh hi
    refine ⟨k, k1, k2, fun j h1 h2 => Nat.lt_of_lt_of_le (RR_gt hs hh hi) (k3 j h1 h2), ?_⟩
    rw [List.getD_eq_getElem?_getD, k4]
    rfl
/-- the distances of the successors in the list: the nodes up to distance D. -/
def ds (h : Has) (s D : Nat) : List Nat := (List.range' 1 D).filter fun d => h ((s + d) % 256)
theorem ds_mem {h : Has} {s D d : Nat} : d ∈ ds h s D ↔ 1 ≤ d ∧ d ≤ D ∧ h ((s + d) % 256) = true := by
  simp only [ds, List.mem_filter, List.mem_range'_1]
  constructor
  · rintro ⟨⟨a, b⟩, c⟩; exact ⟨a, by omega, c⟩
  · rintro ⟨a, b, c⟩; exact ⟨⟨a, by omega⟩, c⟩
theorem ds_succ (h : Has) (s D : Nat) : ds h s (D + 1) = ds h s D ++ if h ((s + (D + 1)) % 256) then [D + 1] else [] := by
  simp only [ds, List.range'_concat, List.filter_append, Nat.one_mul]
  rw [Nat.add_comm 1 D]
  congr 1
  simp only [List.filter_cons, List.filter_nil]
theorem ds_sorted (h : Has) (s D : Nat) : (ds h s D).Pairwise (· < ·) := List.Pairwise.filter _ List.pairwise_lt_range'
theorem ds_first {h : Has} {s D i k d : Nat} (hs : s < 256) (hh : h s = true) (hi : i < 8) (hD : D ≤ 255) (hk : (ds h s D)[k]? = some d) (hlo : ∀ j, j < k → (ds h s D).getD j 0 < 2 ^ i) (hd : 2 ^ i ≤ d) : F h s i = (s + d) % 256 := by
  have hm : d ∈ ds h s D := List.mem_of_getElem? hk
  obtain ⟨m1, m2, m3⟩ := ds_mem.1 hm
  refine (F_is hs hh hi).eq hs ⟨Nat.mod_lt _ (by decide), m3, by rw [dst_add hs m1 (by omega)]; exact hd, fun x x1 x2 => ?_⟩
  rw [dst_add hs m1 (by omega)] at x2
  cases hx : h ((s + x) % 256)
  · rfl
  · have p := pow8 hi
    have hxm : x ∈ ds h s D := ds_mem.2 ⟨by omega, by omega, hx⟩
    obtain ⟨j, hj⟩ := List.getElem?_of_mem hxm
    rcases Nat.lt_or_ge j k with q | q
    · have := hlo j q
      rw [List.getD_eq_getElem?_getD, hj] at this
      simp at this
      omega
    · rcases Nat.lt_or_ge k j with r | r
      · have hjl : j < (ds h s D).length := (List.getElem?_eq_some_iff.1 hj).1
        have := List.pairwise_iff_getElem.1 (ds_sorted h s D) k j (by omega) hjl r
        obtain ⟨_, e1⟩ := List.getElem?_eq_some_iff.1 hj
        obtain ⟨_, e2⟩ := List.getElem?_eq_some_iff.1 hk
        omega
      · have : j = k := by omega
        subst this
        rw [hk] at hj
        injection hj with hj
        omega
/-- key.Within in plain numbers. -/
theorem within_iff {s d i : Nat} (_hs : s < 256) (hi : i < 8) (h1 : 1 ≤ d) (h2 : d ≤ 255) :
    ((s : Int) = (((s + d) % 256 : Nat) : Int) ∨ (((s : Int) + 2 ^ i) % 256 - (s : Int)) % 256 ≠ 0 ∧ (((s : Int) + 2 ^ i) % 256 - (s : Int)) % 256 ≤ ((((s + d) % 256 : Nat) : Int) - (s : Int)) % 256) ↔ 2 ^ i ≤ d := by
  have p := pow8 hi
  have e : ((2 : Int) ^ i) = ((2 ^ i : Nat) : Int) := by simp
  rw [e]
  generalize 2 ^ i = x at *
  omega
/-- where fillFromSuccessors stops. -/
def Stop (h : Has) (s D c : Nat) : Prop := c ≤ 8 ∧ (c < 8 → ∀ d, d ∈ ds h s D → d < 2 ^ c) ∧ (0 < c → ∃ d, d ∈ ds h s D ∧ 2 ^ (c - 1) ≤ d)
end Go.Proofs.Ybulkcmvc
