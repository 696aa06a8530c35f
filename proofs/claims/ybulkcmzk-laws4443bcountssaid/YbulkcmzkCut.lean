/-
  PLAIN: where a string is cut at a rune's boundary, over the model's own 'Utf8.decode'. No Go in sight.
-/
import Derived.Lib.RuneCount
namespace Go.Proofs.Ybulkcmzk
namespace Cut
/-- the width of a rune, out of its four bytes and which of the last three are there and continue it. -/
def dec (b0 b1 b2 b3 : Nat) (c1 c2 c3 : Bool) : Nat :=
  if b0 < 128 then 1
  else if (b0 / 32 == 6 && c1) = true then (if b0 % 32 * 64 + b1 % 64 ≥ 128 then 2 else 1)
  else if (b0 / 16 == 14 && c1 && c2) = true then (if (b0 % 16 * 4096 + b1 % 64 * 64 + b2 % 64 ≥ 2048 && Utf8.valid ((b0 % 16 * 4096 + b1 % 64 * 64 + b2 % 64 : Nat) : Int)) = true then 3 else 1)
  else if (b0 / 8 == 30 && c1 && c2 && c3) = true then (if (b0 % 8 * 262144 + b1 % 64 * 4096 + b2 % 64 * 64 + b3 % 64 ≥ 65536 && Utf8.valid ((b0 % 8 * 262144 + b1 % 64 * 4096 + b2 % 64 * 64 + b3 % 64 : Nat) : Int)) = true then 4 else 1)
  else 1

def at_ (s : ByteArray) (i k : Nat) : Nat := (s.get! (i + k)).toNat
def cont (s : ByteArray) (i k : Nat) : Bool := i + k < s.size && at_ s i k / 64 == 2
theorem width_eq (s : ByteArray) (i : Nat) : (Utf8.decode s i).2 = dec (at_ s i 0) (at_ s i 1) (at_ s i 2) (at_ s i 3) (cont s i 1) (cont s i 2) (cont s i 3) := by
  unfold Utf8.decode dec
  simp only [show ∀ k, (s.get! (i + k)).toNat = at_ s i k from fun _ => rfl, show ∀ k, (decide (i + k < s.size) && at_ s i k / 64 == 2) = cont s i k from fun _ => rfl]
  repeat' split
  all_goals first | rfl | simp_all

/-- whoever sees less, but all that was read, reads the same. -/
theorem dec_less {b0 b1 b2 b3 d1 d2 d3 : Nat} {c1 c2 c3 e1 e2 e3 : Bool} (h1 : e1 = true → c1 = true ∧ d1 = b1) (h2 : e2 = true → c2 = true ∧ d2 = b2) (h3 : e3 = true → c3 = true ∧ d3 = b3)
    (g1 : 1 < dec b0 b1 b2 b3 c1 c2 c3 → e1 = c1) (g2 : 2 < dec b0 b1 b2 b3 c1 c2 c3 → e2 = c2) (g3 : 3 < dec b0 b1 b2 b3 c1 c2 c3 → e3 = c3) :
    dec b0 d1 d2 d3 e1 e2 e3 = dec b0 b1 b2 b3 c1 c2 c3 := by
  by_cases ha : b0 < 128
  · simp [dec, ha]
  by_cases h6 : b0 / 32 = 6
  · have n14 : ¬ b0 / 16 = 14 := by omega
    have n30 : ¬ b0 / 8 = 30 := by omega
    by_cases he : e1 = true
    · obtain ⟨hc, rfl⟩ := h1 he
      simp [dec, ha, h6, he, hc]
    · have hd : dec b0 d1 d2 d3 e1 e2 e3 = 1 := by simp [dec, ha, h6, he]
      rw [hd]
      by_cases hc : c1 = true
      · by_cases hv : b0 % 32 * 64 + b1 % 64 ≥ 128
        · have h2' : dec b0 b1 b2 b3 c1 c2 c3 = 2 := by simp [dec, ha, h6, hc]; omega
          exact absurd ((g1 (by omega)).trans hc) he
        · simp [dec, ha, h6, hc]; omega
      · simp [dec, ha, h6, hc]
  by_cases h14 : b0 / 16 = 14
  · have n30 : ¬ b0 / 8 = 30 := by omega
    by_cases he : (e1 && e2) = true
    · have he1 : e1 = true := by simp at he; exact he.1
      have he2 : e2 = true := by simp at he; exact he.2
      obtain ⟨hc1, rfl⟩ := h1 he1
      obtain ⟨hc2, rfl⟩ := h2 he2
      simp [dec, ha, h6, h14, he1, he2, hc1, hc2]
    · have hd : dec b0 d1 d2 d3 e1 e2 e3 = 1 := by
        unfold dec
        rw [if_neg ha, if_neg (by simp [h6]), if_neg (by rw [Bool.and_assoc]; simp [h14]; simpa using he), if_neg (by simp [n30])]
      rw [hd]
      by_cases hc : (c1 && c2) = true
      · have hc1 : c1 = true := by simp at hc; exact hc.1
        have hc2 : c2 = true := by simp at hc; exact hc.2
        by_cases hv : (b0 % 16 * 4096 + b1 % 64 * 64 + b2 % 64 ≥ 2048 && Utf8.valid ((b0 % 16 * 4096 + b1 % 64 * 64 + b2 % 64 : Nat) : Int)) = true
        · have h3' : dec b0 b1 b2 b3 c1 c2 c3 = 3 := by
            unfold dec
            rw [if_neg ha, if_neg (by simp [h6]), if_pos (by simp [h14, hc1, hc2]), if_pos hv]
          exact absurd (by simp [(g1 (by omega)).trans hc1, (g2 (by omega)).trans hc2]) he
        · unfold dec
          rw [if_neg ha, if_neg (by simp [h6]), if_pos (by simp [h14, hc1, hc2]), if_neg hv]
      · unfold dec
        rw [if_neg ha, if_neg (by simp [h6]), if_neg (by rw [Bool.and_assoc]; simp [h14]; simpa using hc), if_neg (by simp [n30])]
  by_cases h30 : b0 / 8 = 30
  · by_cases he : (e1 && e2 && e3) = true
    · have he1 : e1 = true := by simp at he; exact he.1.1
      have he2 : e2 = true := by simp at he; exact he.1.2
      have he3 : e3 = true := by simp at he; exact he.2
      obtain ⟨hc1, rfl⟩ := h1 he1
      obtain ⟨hc2, rfl⟩ := h2 he2
      obtain ⟨hc3, rfl⟩ := h3 he3
      simp [dec, ha, h6, h14, h30, he1, he2, he3, hc1, hc2, hc3]
    · have key : ∀ f1 f2 f3 : Bool, (f1 && f2 && f3) ≠ true → ¬ (b0 / 8 == 30 && f1 && f2 && f3) = true := by
        intro f1 f2 f3 h h'
        apply h
        simp at h' ⊢
        exact ⟨⟨h'.1.1.2, h'.1.2⟩, h'.2⟩
      have hd : dec b0 d1 d2 d3 e1 e2 e3 = 1 := by
        unfold dec
        rw [if_neg ha, if_neg (by simp [h6]), if_neg (by simp [h14]), if_neg (key _ _ _ he)]
      rw [hd]
      by_cases hc : (c1 && c2 && c3) = true
      · have hc1 : c1 = true := by simp at hc; exact hc.1.1
        have hc2 : c2 = true := by simp at hc; exact hc.1.2
        have hc3 : c3 = true := by simp at hc; exact hc.2
        by_cases hv : (b0 % 8 * 262144 + b1 % 64 * 4096 + b2 % 64 * 64 + b3 % 64 ≥ 65536 && Utf8.valid ((b0 % 8 * 262144 + b1 % 64 * 4096 + b2 % 64 * 64 + b3 % 64 : Nat) : Int)) = true
        · have h4' : dec b0 b1 b2 b3 c1 c2 c3 = 4 := by
            unfold dec
            rw [if_neg ha, if_neg (by simp [h6]), if_neg (by simp [h14]), if_pos (by simp [h30, hc1, hc2, hc3]), if_pos hv]
          exact absurd (by simp [(g1 (by omega)).trans hc1, (g2 (by omega)).trans hc2, (g3 (by omega)).trans hc3]) he
        · unfold dec
          rw [if_neg ha, if_neg (by simp [h6]), if_neg (by simp [h14]), if_pos (by simp [h30, hc1, hc2, hc3]), if_neg hv]
      · unfold dec
        rw [if_neg ha, if_neg (by simp [h6]), if_neg (by simp [h14]), if_neg (key _ _ _ hc)]
  · simp [dec, ha, h6, h14, h30]

theorem get_extract (s : ByteArray) (a e j : Nat) (he : e ≤ s.size) (h : a + j < e) : (s.extract a e).get! j = s.get! (a + j) := by
  have h1 : j < (s.extract a e).size := by simp [ByteArray.size_extract]; omega
  have h2 : a + j < s.size := by omega
  have g1 := get_at (s.extract a e) j h1
  have g2 := get_at s (a + j) h2
  simp only [Nat.add_zero] at g1 g2
  rw [g1, g2, ByteArray.getElem_extract]
theorem size_extract (s : ByteArray) (a e : Nat) (he : e ≤ s.size) : (s.extract a e).size = e - a := by
  simp [ByteArray.size_extract]; omega

theorem width_prefix (s : ByteArray) (q i : Nat) (hq : q ≤ s.size) (hi : i + (Utf8.decode s i).2 ≤ q) (h0 : i < q) : (Utf8.decode (s.extract 0 q) i).2 = (Utf8.decode s i).2 := by
  have ha : ∀ k, i + k < q → at_ (s.extract 0 q) i k = at_ s i k := fun k hk => by
    unfold at_; rw [get_extract s 0 q (i + k) hq (by omega)]; simp
  have hsz : (s.extract 0 q).size = q := by rw [size_extract s 0 q hq]; omega
  have hc : ∀ k, i + k < q → cont (s.extract 0 q) i k = cont s i k := fun k hk => by
    unfold cont; rw [ha k hk, hsz]
    have h1 : decide (i + k < q) = true := by simpa using hk
    have h2 : decide (i + k < s.size) = true := by simp; omega
    rw [h1, h2]
  have hn : ∀ k, cont (s.extract 0 q) i k = true → cont s i k = true ∧ at_ (s.extract 0 q) i k = at_ s i k := fun k h => by
    have hk : i + k < q := by unfold cont at h; rw [hsz] at h; simp at h; exact h.1
    exact ⟨(hc k hk) ▸ h, ha k hk⟩
  rw [width_eq, width_eq, ha 0 (by omega)]
  rw [width_eq] at hi
  exact dec_less (hn 1) (hn 2) (hn 3) (fun h => hc 1 (by omega)) (fun h => hc 2 (by omega)) (fun h => hc 3 (by omega))

theorem width_suffix (s : ByteArray) (q i : Nat) (hq : q ≤ s.size) (hi : q + i < s.size) : (Utf8.decode (s.extract q s.size) i).2 = (Utf8.decode s (q + i)).2 := by
  have hsz : (s.extract q s.size).size = s.size - q := size_extract s q s.size (Nat.le_refl _)
  have ha : ∀ k, q + i + k < s.size → at_ (s.extract q s.size) i k = at_ s (q + i) k := fun k hk => by
    unfold at_; rw [get_extract s q s.size (i + k) (Nat.le_refl _) (by omega), Nat.add_assoc]
  have hc : ∀ k, q + i + k < s.size → cont (s.extract q s.size) i k = cont s (q + i) k := fun k hk => by
    unfold cont; rw [ha k hk, hsz]
    have h1 : decide (i + k < s.size - q) = true := by simp; omega
    have h2 : decide (q + i + k < s.size) = true := by simpa using hk
    rw [h1, h2]
  have hf : ∀ k, ¬ q + i + k < s.size → cont (s.extract q s.size) i k = cont s (q + i) k := fun k hk => by
    unfold cont; rw [hsz]
    have h1 : decide (i + k < s.size - q) = false := by simp; omega
    have h2 : decide (q + i + k < s.size) = false := by simpa using hk
    rw [h1, h2]; rfl
  have hcc : ∀ k, cont (s.extract q s.size) i k = cont s (q + i) k := fun k => by
    by_cases hk : q + i + k < s.size
    · exact hc k hk
    · exact hf k hk
  have hn : ∀ k, cont (s.extract q s.size) i k = true → cont s (q + i) k = true ∧ at_ (s.extract q s.size) i k = at_ s (q + i) k := fun k h => by
    have hk : q + i + k < s.size := by unfold cont at h; rw [hsz] at h; simp at h; omega
    exact ⟨(hcc k) ▸ h, ha k hk⟩
  rw [width_eq, width_eq, ha 0 (by omega)]
  exact dec_less (hn 1) (hn 2) (hn 3) (fun _ => hcc 1) (fun _ => hcc 2) (fun _ => hcc 3)

/-! ### counting -/
open Go.Lib
theorem fuel (s : ByteArray) : ∀ (f g pos : Nat), s.size ≤ pos + f → s.size ≤ pos + g → runeCountFrom s f pos = runeCountFrom s g pos
  | 0, g, pos, h, _ => by rw [runeCountFrom_end s 0 pos (by omega), runeCountFrom_end s g pos (by omega)]
  | f + 1, 0, pos, _, h => by rw [runeCountFrom_end s (f + 1) pos (by omega), runeCountFrom_end s 0 pos (by omega)]
  | f + 1, g + 1, pos, h, h' => by
    unfold runeCountFrom
    by_cases hp : pos < s.size
    · have hw := decode_width_pos s pos hp
      rw [if_pos hp, if_pos hp, fuel s f g (pos + (Utf8.decode s pos).2) (by omega) (by omega)]
    · rw [if_neg hp, if_neg hp]
def cnt (s : ByteArray) (pos : Nat) : Nat := runeCountFrom s s.size pos
theorem cnt_end (s : ByteArray) (pos : Nat) (h : ¬ pos < s.size) : cnt s pos = 0 := runeCountFrom_end s _ _ h
theorem cnt_step (s : ByteArray) (pos : Nat) (h : pos < s.size) : cnt s pos = 1 + cnt s (pos + (Utf8.decode s pos).2) := by
  have hw := decode_width_pos s pos h
  unfold cnt
  rw [fuel s s.size (s.size + 1) pos (by omega) (by omega), runeCountFrom, if_pos h]
theorem cnt_zero (s : ByteArray) : cnt s 0 = runeCount s := rfl

def ixFrom (s : ByteArray) : Nat → Nat → Int → Nat
  | 0, _, _ => s.size
  | f + 1, pos, n => if pos < s.size then (if n ≤ 0 then pos else ixFrom s f (pos + (Utf8.decode s pos).2) (n - 1)) else s.size
theorem ixFrom_end (s : ByteArray) (f pos : Nat) (n : Int) (h : ¬ pos < s.size) : ixFrom s f pos n = s.size := by cases f <;> simp [ixFrom, h]
theorem ix_fuel (s : ByteArray) : ∀ (f g pos : Nat) (n : Int), s.size ≤ pos + f → s.size ≤ pos + g → ixFrom s f pos n = ixFrom s g pos n
  | 0, g, pos, n, h, _ => by rw [ixFrom_end s 0 pos n (by omega), ixFrom_end s g pos n (by omega)]
  | f + 1, 0, pos, n, _, h => by rw [ixFrom_end s (f + 1) pos n (by omega), ixFrom_end s 0 pos n (by omega)]
  | f + 1, g + 1, pos, n, h, h' => by
    unfold ixFrom
    by_cases hp : pos < s.size
    · have hw := decode_width_pos s pos hp
      rw [if_pos hp, if_pos hp, ix_fuel s f g (pos + (Utf8.decode s pos).2) (n - 1) (by omega) (by omega)]
    · rw [if_neg hp, if_neg hp]
/-- runeIndex from place pos on. -/
def ix (s : ByteArray) (pos : Nat) (n : Int) : Nat := ixFrom s s.size pos n
theorem ix_end (s : ByteArray) (pos : Nat) (n : Int) (h : ¬ pos < s.size) : ix s pos n = s.size := ixFrom_end s _ _ _ h
theorem ix_stop (s : ByteArray) (pos : Nat) (n : Int) (h : pos < s.size) (hn : n ≤ 0) : ix s pos n = pos := by
  unfold ix
  rw [ix_fuel s s.size (s.size + 1) pos n (by omega) (by omega), ixFrom, if_pos h, if_pos hn]
theorem ix_step (s : ByteArray) (pos : Nat) (n : Int) (h : pos < s.size) (hn : ¬ n ≤ 0) : ix s pos n = ix s (pos + (Utf8.decode s pos).2) (n - 1) := by
  have hw := decode_width_pos s pos h
  unfold ix
  rw [ix_fuel s s.size (s.size + 1) pos n (by omega) (by omega), ixFrom, if_pos h, if_neg hn]

theorem ix_all (s : ByteArray) : ∀ (d pos : Nat) (n : Int), s.size ≤ pos + d → (cnt s pos : Int) ≤ n → ix s pos n = s.size
  | 0, pos, n, hd, _ => ix_end s pos n (by omega)
  | d + 1, pos, n, hd, h => by
    by_cases hp : pos < s.size
    · have hw := decode_width_pos s pos hp
      rw [cnt_step s pos hp] at h
      rw [ix_step s pos n hp (by omega)]
      exact ix_all s d _ _ (by omega) (by omega)
    · exact ix_end s pos n hp

theorem cut (s : ByteArray) : ∀ (m pos : Nat), m < cnt s pos → ∃ q, pos ≤ q ∧ q < s.size ∧ ix s pos m = q ∧ cnt s q + m = cnt s pos ∧ cnt (s.extract 0 q) pos = m
  | 0, pos, h => by
    have hp : pos < s.size := by
      by_cases hp : pos < s.size
      · exact hp
      · rw [cnt_end s pos hp] at h; omega
    refine ⟨pos, Nat.le_refl _, hp, ix_stop s pos _ hp (by simp), by omega, cnt_end _ _ ?_⟩
    rw [size_extract s 0 pos (by omega)]; omega
  | m + 1, pos, h => by
    have hp : pos < s.size := by
      by_cases hp : pos < s.size
      · exact hp
      · rw [cnt_end s pos hp] at h; omega
    have hw := decode_width_pos s pos hp
    have hs := cnt_step s pos hp
    obtain ⟨q, h1, h2, h3, h4, h5⟩ := cut s m (pos + (Utf8.decode s pos).2) (by omega)
    refine ⟨q, by omega, h2, ?_, by omega, ?_⟩
    · rw [ix_step s pos _ hp (by omega), show ((m + 1 : Nat) : Int) - 1 = (m : Int) by omega]; exact h3
    · have hq : pos < (s.extract 0 q).size := by rw [size_extract s 0 q (by omega)]; omega
      rw [cnt_step _ pos hq, width_prefix s q pos (by omega) (by omega) (by omega), h5]; omega

theorem cnt_suffix (s : ByteArray) (q : Nat) (hq : q ≤ s.size) : ∀ (d i : Nat), s.size ≤ q + i + d → cnt (s.extract q s.size) i = cnt s (q + i)
  | 0, i, hd => by
    rw [cnt_end s (q + i) (by omega), cnt_end _ i (by rw [size_extract s q s.size (Nat.le_refl _)]; omega)]
  | d + 1, i, hd => by
    by_cases hp : q + i < s.size
    · have hw := decode_width_pos s (q + i) hp
      rw [cnt_step s (q + i) hp, cnt_step _ i (by rw [size_extract s q s.size (Nat.le_refl _)]; omega), width_suffix s q i hq hp, cnt_suffix s q hq d (i + (Utf8.decode s (q + i)).2) (by omega), Nat.add_assoc q i]
    · rw [cnt_end s (q + i) hp, cnt_end _ i (by rw [size_extract s q s.size (Nat.le_refl _)]; omega)]

/-- THE PLAIN LAW. -/
theorem law (s : ByteArray) (n : Int) (hn : 0 < n) (ht : n < (runeCount s : Int)) :
    ix s 0 n < s.size ∧ (runeCount (s.extract 0 (ix s 0 n)) : Int) = n ∧ runeCount (s.extract 0 (ix s 0 n)) + runeCount (s.extract (ix s 0 n) s.size) = runeCount s := by
  obtain ⟨m, rfl⟩ := Int.eq_ofNat_of_zero_le (show 0 ≤ n by omega)
  obtain ⟨q, _, h2, h3, h4, h5⟩ := cut s m 0 (by rw [cnt_zero]; omega)
  have h6 := cnt_suffix s q (by omega) s.size 0 (by omega)
  rw [h3]
  rw [cnt_zero] at h4 h5 h6
  rw [h5, h6]
  exact ⟨h2, rfl, by simp only [Nat.add_zero]; omega⟩
end Cut
end Go.Proofs.Ybulkcmzk
