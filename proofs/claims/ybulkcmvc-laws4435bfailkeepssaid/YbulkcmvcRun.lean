import Derived.Test.YbulkcmvcRing2
import Derived.WalkKit
import Derived.WalkSpells
import Derived.BigRegion
import Derived.BigQuiet
import Derived.Deep.QuietTactic
import Derived.Handy
namespace Go.Proofs.Ybulkcmvc
open Go.RowKit
theorem less_true (a b : Int) (h : a < b) (w : World) : Calls Yba.prog 79 #[.int .u8 a, .int .u8 b] w fun e w' => e = .returned (.bool true) ∧ w' = w := by
  go_enter Yba.func79, Yba.ntmps79
  go_wp2
  go_ret
  exact ⟨rfl, rfl⟩
theorem less_false (a b : Int) (h : ¬ a < b) (w : World) : Calls Yba.prog 79 #[.int .u8 a, .int .u8 b] w fun e w' => e = .returned (.bool false) ∧ w' = w := by
  go_enter Yba.func79, Yba.ntmps79
  go_wp2
  go_ret
  exact ⟨rfl, rfl⟩
/-- a place, and whether it was met there. -/
def Placed (e : Ending) (r : Nat) : Prop := ∃ b, e = .returned (.tuple #[.int .i64 r, .bool b])
set_option maxHeartbeats 1000000 in
/-- slices.BinarySearch over a short row of bytes: the place is told ahead. -/
theorem bsearch_walk (g n c r : Nat) (es : Nat → Int) (x : Int) (hn : n < 256) (hr : r ≤ n) (hlo : ∀ k, k < r → es k < x) (hhi : ∀ k, r ≤ k → k < n → ¬ es k < x) (w : World)
    (hc : ∀ k, k < n → w.cell? ⟨g, k, none⟩ = some (.int .u8 (es k))) :
    Calls Yba.prog 57 #[.slice (some ⟨g, 0, none⟩) n c, .int .u8 x] w fun e w' => Placed e r ∧ w' = w := by
  have HC : Hid (∀ k, k < n → w.cell? ⟨g, k, none⟩ = some (.int .u8 (es k))) := hc
  have HL : Hid (∀ k, k < r → es k < x) := hlo
  have HH : Hid (∀ k, r ≤ k → k < n → ¬ es k < x) := hhi
  clear hc hlo hhi
  go_enter Yba.func57, Yba.ntmps57
  go_wp2
  go_loop [7, 8] (fun vi vj => ∃ i j : Nat, i ≤ r ∧ r ≤ j ∧ j ≤ n ∧ vi = .int .i64 i ∧ vj = .int .i64 j) (fun vi vj => (intOf vj).toNat - (intOf vi).toNat)
  case atStart => exact ⟨0, n, by omega, hr, by omega, rfl, rfl⟩
  case round =>
    obtain ⟨i, j, hi, hj, hjn, rfl, rfl⟩ := hrel
    by_cases hij : i < j
    · have q1 : (i : Int) < (j : Int) := by omega
      obtain ⟨m, hm⟩ : ∃ m : Nat, (i + j) / 2 = m := ⟨_, rfl⟩
      have q2 : (m : Int) < (n : Int) := by omega
      have q3 : ((i : Int) + (j : Int)) / 2 = (m : Int) := by omega
      have c1 := HC.out m (by omega)
      by_cases hlt : es m < x
      · have hmr : m < r := by
          rcases Nat.lt_or_ge m r with h | h
          · exact h
          · have := HH.out m (by omega) (by omega); omega
        go_wp2_with (go_at_call 79; refine (less_true _ _ hlt _).mono ?_; rintro e w' ⟨rfl, rfl⟩)
        exact ⟨⟨m + 1, j, by omega, hj, hjn, by go_num, rfl⟩, by simp [intOf]; omega⟩
      · have hmr : r ≤ m := by
          rcases Nat.lt_or_ge m r with h | h
          · have := HL.out m h; omega
          · exact h
        go_wp2_with (go_at_call 79; refine (less_false _ _ hlt _).mono ?_; rintro e w' ⟨rfl, rfl⟩)
        exact ⟨⟨i, m, hi, hmr, by omega, rfl, rfl⟩, by simp [intOf]; omega⟩
    · obtain rfl : i = r := by omega
      obtain rfl : j = i := by omega
      by_cases hjn2 : j < n
      · have c1 := HC.out j hjn2
        have q1 : (j : Int) < (n : Int) := by omega
        by_cases he : es j = x
        · have he' : (es j == x) = true := by simpa using he
          go_wp2
          go_ret2
          exact ⟨⟨_, rfl⟩, rfl⟩
        · have he' : (es j == x) = false := by simpa using he
          go_wp2
          go_ret2
          exact ⟨⟨_, rfl⟩, rfl⟩
      · obtain rfl : j = n := by omega
        go_wp2
        go_ret2
        exact ⟨⟨_, rfl⟩, rfl⟩

set_option maxHeartbeats 1000000 in
/-- (*fingerRuns).run: the runs lie at ⟨T, o⟩. -/
theorem run_walk (T o g n c r i : Nat) (es : Nat → Int) (hn : n < 256) (hi : i < 255) (hr : r ≤ n) (hlo : ∀ k, k < r → es k < (i : Int) + 1) (hhi : ∀ k, r ≤ k → k < n → ¬ es k < (i : Int) + 1) (w : World)
    (h1 : w.cell? ⟨T, o + 1, none⟩ = some (.slice (some ⟨g, 0, none⟩) n c)) (hc : ∀ k, k < n → w.cell? ⟨g, k, none⟩ = some (.int .u8 (es k))) :
    Calls Yba.prog 36 #[.pointer (some ⟨T, o, none⟩), .int .i64 i] w fun e w' => e = .returned (.int .i64 r) ∧ w' = w := by
  have hb : ∀ w', w' = w → Calls Yba.prog 57 #[.slice (some ⟨g, 0, none⟩) n c, .int .u8 ((i : Int) + 1)] w' fun e w' => Placed e r ∧ w' = w := by
    rintro w' rfl; exact bsearch_walk g n c r es _ hn hr hlo hhi _ hc
  have HB : Hid _ := hb
  have e1 : IntKind.u8.wrap ((i : Int) + 1) = (i : Int) + 1 := by rw [IntKind.wrap_u8]; omega
  clear hb hc hlo hhi
  go_enter Yba.func36, Yba.ntmps36
  go_wp2_with fail
  refine Calls.mono (HB.out _ rfl) ?_
  rintro e w' ⟨⟨b, rfl⟩, rfl⟩
  go_wp2
  go_ret
  exact ⟨rfl, rfl⟩
end Go.Proofs.Ybulkcmvc
