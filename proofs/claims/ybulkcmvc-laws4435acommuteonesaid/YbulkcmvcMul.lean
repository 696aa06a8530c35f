/-
  PLAIN MATHEMATICS: numbers by their digits; the schoolbook product. No Go in sight.
-/
namespace Go.Proofs.Ybulkcmvc
namespace Mul

/-- one cell of a row of numbers turned. -/
def upd (f : Nat → Int) (n : Nat) (x : Int) : Nat → Int := fun k => if k = n then x else f k

theorem upd_same (f : Nat → Int) (n : Nat) (x : Int) : upd f n x n = x := by simp [upd]
theorem upd_other (f : Nat → Int) (n : Nat) (x : Int) (k : Nat) (h : k ≠ n) : upd f n x k = f k := by simp [upd, h]

/-- what the first digits of f, the least first, say to the base b. -/
def val (b : Int) (f : Nat → Int) : Nat → Int
  | 0 => 0
  | n + 1 => val b f n + f n * b ^ n

theorem val_upd (b : Int) (f : Nat → Int) (n : Nat) (x : Int) (m : Nat) : val b (upd f n x) m = val b f m + (if n < m then (x - f n) * b ^ n else 0) := by
  induction m with
  | zero => simp [val]
  | succ m ih =>
    rw [val, val, ih]
    by_cases h : n < m
    · have h1 : n < m + 1 := by omega
      have h2 : ¬ m = n := by omega
      simp [upd, h, h1, h2]; grind
    · by_cases h3 : n = m
      · subst h3; simp [upd]; grind
      · have h1 : ¬ n < m + 1 := by omega
        have h2 : ¬ m = n := by omega
        simp [upd, h, h1, h2]

theorem val_congr (b : Int) {f g : Nat → Int} (m : Nat) (h : ∀ k, k < m → f k = g k) : val b f m = val b g m := by
  induction m with
  | zero => rfl
  | succ m ih => rw [val, val, ih (fun k hk => h k (by omega)), h m (by omega)]

/-- all digits are digits. -/
def Dig (b : Int) (f : Nat → Int) (m : Nat) : Prop := ∀ k, k < m → 0 ≤ f k ∧ f k < b

theorem val_bd {b : Int} (hb : 0 < b) {f : Nat → Int} (m : Nat) (hf : Dig b f m) : 0 ≤ val b f m ∧ val b f m < b ^ m := by
  induction m with
  | zero => simp [val]
  | succ m ih =>
    obtain ⟨h1, h2⟩ := ih (fun k hk => hf k (by omega))
    obtain ⟨h3, h4⟩ := hf m (by omega)
    have hp : 0 < b ^ m := Int.pow_pos hb
    rw [val, Int.pow_succ]
    have h5 : 0 ≤ f m * b ^ m := Int.mul_nonneg h3 (by omega)
    have h6 : (f m + 1) * b ^ m ≤ b * b ^ m := Int.mul_le_mul_of_nonneg_right (by omega) (by omega)
    rw [Int.add_mul, Int.one_mul] at h6
    rw [Int.mul_comm (b ^ m) b]
    omega

theorem digits {b : Int} (hb : 0 < b) {f g : Nat → Int} (m : Nat) (hf : Dig b f m) (hg : Dig b g m) (h : val b f m = val b g m) : ∀ k, k < m → f k = g k := by
  induction m with
  | zero => intro k hk; omega
  | succ m ih =>
    have hf' : Dig b f m := fun k hk => hf k (by omega)
    have hg' : Dig b g m := fun k hk => hg k (by omega)
    obtain ⟨a1, a2⟩ := val_bd hb m hf'
    obtain ⟨c1, c2⟩ := val_bd hb m hg'
    have hp : 0 < b ^ m := Int.pow_pos hb
    rw [val, val] at h
    have e : f m = g m := by
      rcases Int.lt_trichotomy (f m) (g m) with hl | he | hl
      · have h6 : (f m + 1) * b ^ m ≤ g m * b ^ m := Int.mul_le_mul_of_nonneg_right (by omega) (by omega)
        rw [Int.add_mul, Int.one_mul] at h6; omega
      · exact he
      · have h6 : (g m + 1) * b ^ m ≤ f m * b ^ m := Int.mul_le_mul_of_nonneg_right (by omega) (by omega)
        rw [Int.add_mul, Int.one_mul] at h6; omega
    have e2 : val b f m = val b g m := by rw [e] at h; omega
    intro k hk
    by_cases hk' : k < m
    · exact ih hf' hg' e2 k hk'
    · have : k = m := by omega
      subst this; exact e

/-- two digits to the base b are one to the base b * b. -/
theorem val_pair (b : Int) (f : Nat → Int) (m : Nat) : val b f (2 * m) = val (b * b) (fun w => f (2 * w) + f (2 * w + 1) * b) m := by
  induction m with
  | zero => rfl
  | succ m ih =>
    have e : 2 * (m + 1) = 2 * m + 1 + 1 := by omega
    rw [e, val, val, val, ih]
    have e2 : (b * b) ^ m = b ^ (2 * m) := by
      rw [Nat.mul_comm 2 m, Int.pow_mul, Int.pow_succ, Int.pow_succ, Int.pow_zero, Int.one_mul, Int.mul_pow]
    rw [e2, Int.pow_succ]
    grind

/-! ### the schoolbook -/
/-- after i whole rows and j steps of the next: what the row of sums holds, with the carry. -/
structure Inv (b : Int) (n : Nat) (S T : Nat → Int) (i j : Nat) (f : Nat → Int) (c : Int) : Prop where
  dig : Dig b f (n + n)
  c0 : 0 ≤ c
  c1 : c < b
  zero : ∀ k, i + n ≤ k → k < n + n → f k = 0
  eq : val b f (n + n) + c * b ^ (i + j) = val b S i * val b T n + S i * b ^ i * val b T j

theorem Inv.start (b : Int) (hb : 0 < b) (n : Nat) (S T : Nat → Int) : Inv b n S T 0 0 (fun _ => 0) 0 := by
  refine ⟨fun k _ => ⟨Int.le_refl 0, hb⟩, Int.le_refl 0, hb, fun _ _ _ => rfl, ?_⟩
  have h : ∀ m, val b (fun _ => 0) m = 0 := by
    intro m; induction m with
    | zero => rfl
    | succ m ih => rw [val, ih]; simp
  rw [h]; simp [val]

theorem prod_bd {b x y : Int} (hx : 0 ≤ x ∧ x < b) (hy : 0 ≤ y ∧ y < b) : 0 ≤ x * y ∧ x * y + b + b ≤ b * b + 1 := by
  refine ⟨Int.mul_nonneg hx.1 hy.1, ?_⟩
  have h1 : x * y ≤ (b - 1) * (b - 1) := Int.mul_le_mul (by omega) (by omega) hy.1 (by omega)
  have h2 : (b - 1) * (b - 1) = b * b - b - b + 1 := by grind
  omega

theorem X_bd {b x y r c : Int} (hx : 0 ≤ x ∧ x < b) (hy : 0 ≤ y ∧ y < b) (hr : 0 ≤ r ∧ r < b) (hc : 0 ≤ c ∧ c < b) : 0 ≤ x * y + r + c ∧ x * y + r + c < b * b := by
  have := prod_bd hx hy; omega

theorem Inv.step {b : Int} (hb : 0 < b) {n : Nat} {S T : Nat → Int} (hS : Dig b S n) (hT : Dig b T n) {i j : Nat} (hi : i < n) (hj : j < n) {f : Nat → Int} {c : Int} (h : Inv b n S T i j f c) :
    Inv b n S T i (j + 1) (upd f (i + j) ((S i * T j + f (i + j) + c) % b)) ((S i * T j + f (i + j) + c) / b) := by
  have hX := X_bd (hS i hi) (hT j hj) (h.dig (i + j) (by omega)) ⟨h.c0, h.c1⟩
  have hE := Int.mul_ediv_add_emod (S i * T j + f (i + j) + c) b
  have hq : 0 ≤ (S i * T j + f (i + j) + c) / b ∧ (S i * T j + f (i + j) + c) / b < b := ⟨Int.ediv_nonneg hX.1 (by omega), Int.ediv_lt_of_lt_mul hb hX.2⟩
  have hr : 0 ≤ (S i * T j + f (i + j) + c) % b ∧ (S i * T j + f (i + j) + c) % b < b := ⟨Int.emod_nonneg _ (by omega), Int.emod_lt_of_pos _ hb⟩
  generalize hXe : S i * T j + f (i + j) + c = X at *
  refine ⟨?_, hq.1, hq.2, ?_, ?_⟩
  · intro k hk
    by_cases e : k = i + j
    · subst e; rw [upd_same]; exact hr
    · rw [upd_other _ _ _ _ e]; exact h.dig k hk
  · intro k hk1 hk2
    rw [upd_other _ _ _ _ (by omega)]; exact h.zero k hk1 hk2
  · have h4 := h.eq
    rw [val_upd, if_pos (by omega), val, show i + (j + 1) = i + j + 1 from rfl, Int.pow_succ]
    have hp : b ^ (i + j) = b ^ i * b ^ j := Int.pow_add _ _ _
    generalize hPe : b ^ (i + j) = P at *
    generalize hq' : X / b = q at *
    generalize hr' : X % b = r at *
    have e1 : S i * T j * P = S i * b ^ i * (T j * b ^ j) := by rw [hp]; grind
    have e2 : (b * q + r) * P = (S i * T j + f (i + j) + c) * P := by rw [hE, hXe]
    grind

/-- the row's end: the carry is laid into the cell ahead. -/
theorem Inv.row {b : Int} (hb : 0 < b) {n : Nat} {S T : Nat → Int} {i : Nat} (hi : i < n) {f : Nat → Int} {c : Int} (h : Inv b n S T i n f c) :
    Inv b n S T (i + 1) 0 (upd f (i + n) c) 0 := by
  refine ⟨?_, Int.le_refl 0, hb, ?_, ?_⟩
  · intro k hk
    by_cases e : k = i + n
    · subst e; rw [upd_same]; exact ⟨h.c0, h.c1⟩
    · rw [upd_other _ _ _ _ e]; exact h.dig k hk
  · intro k hk1 hk2
    rw [upd_other _ _ _ _ (by omega)]; exact h.zero k (by omega) hk2
  · have h4 := h.eq
    have h5 := h.zero (i + n) (Nat.le_refl _) (by omega)
    rw [val_upd, if_pos (by omega), h5, val, val]
    generalize b ^ (i + n) = P at *
    grind

theorem Inv.done {b : Int} {n : Nat} {S T : Nat → Int} {f : Nat → Int} (h : Inv b n S T n 0 f 0) : val b f (n + n) = val b S n * val b T n := by
  have h4 := h.eq
  simp [val] at h4
  exact h4
end Mul
end Go.Proofs.Ybulkcmvc
