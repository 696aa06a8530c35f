/-
  PLAIN: what Escape does to a list of bytes. No Go in sight.
-/
namespace Go.Proofs.YbulkcmxuFmt
namespace Esc
/-- '!' or no printable ASCII. -/
def bad (c : UInt8) : Bool := c == 33 || c ≤ 32 || 126 < c
def cap (c : UInt8) : Bool := 65 ≤ c && c ≤ 90
def one (c : UInt8) : List UInt8 := if cap c then [33, c + 32] else [c]
def esc (l : List UInt8) : List UInt8 := l.flatMap one
def good (l : List UInt8) : Bool := l.all fun c => !bad c
def caps (l : List UInt8) : Nat := (l.filter cap).length
theorem esc_snoc (l : List UInt8) (c : UInt8) : esc (l ++ [c]) = esc l ++ one c := by simp [esc]
theorem good_snoc (l : List UInt8) (c : UInt8) : good (l ++ [c]) = (good l && !bad c) := by simp [good]
theorem caps_snoc (l : List UInt8) (c : UInt8) : caps (l ++ [c]) = caps l + if cap c then 1 else 0 := by
  unfold caps; rw [List.filter_append, List.length_append]
  cases h : cap c <;> simp [h]
theorem caps_le (l : List UInt8) : caps l ≤ l.length := List.length_filter_le _ _
theorem esc_nocaps (l : List UInt8) (h : caps l = 0) : esc l = l := by
  induction l with
  | nil => rfl
  | cons c l ih =>
    have e : caps (c :: l) = (if cap c then 1 else 0) + caps l := by
      unfold caps; cases h : cap c <;> simp [h]; omega
    rw [e] at h
    have h1 : cap c = false := by cases hc : cap c with | true => rw [hc] at h; simp at h | false => rfl
    have h2 : caps l = 0 := by omega
    have : esc (c :: l) = one c ++ esc l := by simp [esc]
    rw [this, ih h2]; simp [one, h1]
theorem esc_len (l : List UInt8) : (esc l).length ≤ 2 * l.length := by
  induction l with
  | nil => simp [esc]
  | cons c l ih =>
    have : esc (c :: l) = one c ++ esc l := by simp [esc]
    rw [this, List.length_append, List.length_cons]
    have : (one c).length ≤ 2 := by unfold one; split <;> simp
    omega
theorem good_take {l : List UInt8} {k : Nat} (h : good (l.take k) = false) : good l = false := by
  have e : good l = (good (l.take k) && good (l.drop k)) := by
    unfold good; rw [← List.all_append, List.take_append_drop]
  rw [e, h]; rfl
theorem bad_iff (c : UInt8) : bad c = decide ((c.toNat : Int) = 33 ∨ (c.toNat : Int) ≤ 32 ∨ 126 < (c.toNat : Int)) := by
  unfold bad
  rw [Bool.eq_iff_iff]
  simp [UInt8.le_iff_toNat_le, UInt8.lt_iff_toNat_lt, ← UInt8.toNat_inj]
  omega
theorem cap_iff (c : UInt8) : cap c = decide (65 ≤ (c.toNat : Int) ∧ (c.toNat : Int) ≤ 90) := by
  unfold cap
  rw [Bool.eq_iff_iff]
  simp [UInt8.le_iff_toNat_le]
  omega
end Esc
end Go.Proofs.YbulkcmxuFmt
