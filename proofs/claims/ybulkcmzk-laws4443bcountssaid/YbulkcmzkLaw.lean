/-
  runeIndex, utf8.RuneCountInString and LawS4443BCounts, walked (the counter's walk after the shelf's Utf8/RuneCount.lean).
-/
import Derived.Test.YbulkcmzkCut
import Derived.Test.YbulkcmzkProg
import Derived.WalkKit
import Derived.WalkSpells
import Derived.Laws.RangeString
import Derived.Laws.RangeAny
namespace Go.Proofs.Ybulkcmzk
open Go.RowKit

set_option maxHeartbeats 1000000 in
set_option maxRecDepth 100000 in
theorem count_any (s : ByteArray) (w : World) (hs : s.size ≤ 9223372036854775807) :
    Calls Yba.prog 5 #[.string s] w fun e w' => e = .returned (.int .i64 (Lib.runeCount s)) ∧ ∃ pos, w' = w.iter s pos := by
  go_enter Yba.func5, Yba.ntmps5
  go_wp2
  go_loopw [2] (fun n w' => ∃ (pos acc : Nat), w' = w.iter s pos ∧ n = .int .i64 acc ∧ acc + Cut.cnt s pos = Lib.runeCount s ∧ acc ≤ pos) (fun _ w' => s.size - w'.iterPos w.heap.size)
  case atStart => exact ⟨0, 0, rfl, rfl, by rw [Cut.cnt_zero]; omega, Nat.le_refl _⟩
  case round =>
    obtain ⟨pos, acc, rfl, rfl, hc, ha⟩ := hrel
    have HC : Hid (acc + Cut.cnt s pos = Lib.runeCount s) := hc
    clear hc
    by_cases hp : pos < s.size
    · have hnx : ∀ ty, (Instr.next (.pointer (some ⟨w.heap.size, 0, none⟩)) true ty).run Yba.prog (w.iter s pos) = _ := fun ty => run_next_any w s pos ty hp
      have hwd := Lib.decode_width_pos s pos hp
      have HST : Hid (Cut.cnt s pos = 1 + Cut.cnt s (pos + (Utf8.decode s pos).2)) := Cut.cnt_step s pos hp
      go_wp2
      go_roundw
      case rel => exact ⟨pos + (Utf8.decode s pos).2, acc + 1, rfl, by go_num, by have := HC.out; have := HST.out; omega, by omega⟩
      case measure =>
        simp
        omega
    · have hnx : ∀ ty, (Instr.next (.pointer (some ⟨w.heap.size, 0, none⟩)) true ty).run Yba.prog (w.iter s pos) = _ := fun ty => run_next_end w s pos ty hp
      have hfin : acc = Lib.runeCount s := by have := HC.out; rw [Cut.cnt_end s pos hp] at this; omega
      have HF : Hid (acc = Lib.runeCount s) := hfin
      clear hfin
      go_wp2
      go_ret
      exact ⟨by rw [← HF.out]; rfl, _, rfl⟩

set_option maxHeartbeats 1000000 in
set_option maxRecDepth 100000 in
theorem index_any (s : ByteArray) (n : Int) (w : World) (hn : -9223372036854775808 ≤ n) (hn' : n ≤ 9223372036854775807) :
    Calls Yba.prog 4 #[.string s, .int .i64 n] w fun e w' => e = .returned (.int .i64 (Cut.ix s 0 n)) ∧ ∃ pos, w' = w.iter s pos := by
  go_enter Yba.func4, Yba.ntmps4
  go_wp2
  go_loopw [1] (fun v w' => ∃ (pos : Nat) (m : Int), w' = w.iter s pos ∧ v = .int .i64 m ∧ m ≤ n ∧ -9223372036854775808 ≤ m ∧ Cut.ix s pos m = Cut.ix s 0 n) (fun _ w' => s.size - w'.iterPos w.heap.size)
  case atStart => exact ⟨0, n, rfl, rfl, Int.le_refl _, hn, rfl⟩
  case round =>
    obtain ⟨pos, m, rfl, rfl, hm, hm', hc⟩ := hrel
    have HC : Hid (Cut.ix s pos m = Cut.ix s 0 n) := hc
    clear hc
    by_cases hp : pos < s.size
    · have hnx : ∀ ty, (Instr.next (.pointer (some ⟨w.heap.size, 0, none⟩)) true ty).run Yba.prog (w.iter s pos) = _ := fun ty => run_next_any w s pos ty hp
      have hwd := Lib.decode_width_pos s pos hp
      by_cases hz : m ≤ 0
      · have HF : Hid (Cut.ix s 0 n = pos) := by rw [← HC.out]; exact Cut.ix_stop s pos m hp hz
        go_wp2
        go_ret
        exact ⟨by rw [HF.out]; rfl, _, rfl⟩
      · have HST : Hid (Cut.ix s (pos + (Utf8.decode s pos).2) (m - 1) = Cut.ix s 0 n) := by rw [← HC.out]; exact (Cut.ix_step s pos m hp hz).symm
        go_wp2
        go_roundw
        case rel => exact ⟨pos + (Utf8.decode s pos).2, m - 1, rfl, rfl, by omega, by omega, HST.out⟩
        case measure =>
          simp
          omega
    · have hnx : ∀ ty, (Instr.next (.pointer (some ⟨w.heap.size, 0, none⟩)) true ty).run Yba.prog (w.iter s pos) = _ := fun ty => run_next_end w s pos ty hp
      have HF : Hid (Cut.ix s 0 n = s.size) := by rw [← HC.out]; exact Cut.ix_end s pos m hp
      go_wp2
      go_ret
      exact ⟨by rw [HF.out]; rfl, _, rfl⟩

theorem below_iter {B : Nat} {a w : World} (h : Below B a w) (hB : B ≤ w.heap.size) (s : ByteArray) (p : Nat) : Below B a (w.iter s p) := h.alloc hB _
theorem size_iter (w : World) (s : ByteArray) (p : Nat) : (w.iter s p).heap.size = w.heap.size + 1 := by simp [World.iter]

set_option maxHeartbeats 1000000 in
set_option maxRecDepth 100000 in
theorem law_any (s : ByteArray) (n : Int) (w : World) (hs : s.size ≤ 9223372036854775807) (hn : -9223372036854775808 ≤ n) (hn' : n ≤ 9223372036854775807) :
    Calls Yba.prog 3 #[.string s, .int .i64 n] w fun e w' => e = .returned (.bool true) ∧ Below w.heap.size w w' := by
  obtain ⟨r, hr⟩ : ∃ r, Cut.ix s 0 n = r := ⟨_, rfl⟩
  by_cases h0 : n ≤ 0
  · have hr0 : r = 0 := by
      by_cases hp : 0 < s.size
      · rw [← hr]; exact Cut.ix_stop s 0 n hp h0
      · rw [← hr, Cut.ix_end s 0 n hp]; omega
    have HR : Hid (Cut.ix s 0 n = 0) := hr.trans hr0
    clear hr hr0
    go_enter Yba.func3, Yba.ntmps3
    go_wp2_with (go_at_call 4; refine (index_any s n _ hn hn').mono ?_; rintro e w1 ⟨rfl, p1, rfl⟩; rw [HR.out])
    go_ret
    exact ⟨rfl, below_iter (Below.refl _ _) (Nat.le_refl _) _ _⟩
  · obtain ⟨t, ht⟩ : ∃ t, Lib.runeCount s = t := ⟨_, rfl⟩
    have htb : t ≤ s.size := by rw [← ht]; exact Lib.runeCount_le s
    by_cases h1 : (t : Int) ≤ n
    · have hr0 : r = s.size := by rw [← hr]; exact Cut.ix_all s s.size 0 n (by omega) (by rw [Cut.cnt_zero, ht]; exact h1)
      have HR : Hid (Cut.ix s 0 n = s.size) := hr.trans hr0
      have HT : Hid (Lib.runeCount s = t) := ht
      clear hr hr0 ht
      go_enter Yba.func3, Yba.ntmps3
      go_wp2_with (first
        | (go_at_call 4; refine (index_any s n _ hn hn').mono ?_; rintro e w1 ⟨rfl, p1, rfl⟩; rw [HR.out])
        | (go_at_call 5; refine (count_any s _ hs).mono ?_; rintro e w1 ⟨rfl, p2, rfl⟩; rw [HT.out]))
      go_ret
      exact ⟨rfl, below_iter (below_iter (Below.refl _ _) (Nat.le_refl _) _ _) (by rw [size_iter]; omega) _ _⟩
    · obtain ⟨l1, l2, l3⟩ := Cut.law s n (by omega) (by omega)
      rw [hr] at l1 l2 l3
      rw [ht] at l3
      obtain ⟨u, hu⟩ : ∃ u, Lib.runeCount (s.extract 0 r) = u := ⟨_, rfl⟩
      obtain ⟨v, hv⟩ : ∃ v, Lib.runeCount (s.extract r s.size) = v := ⟨_, rfl⟩
      rw [hu] at l2 l3
      rw [hv] at l3
      have HR : Hid (Cut.ix s 0 n = r) := hr
      have HT : Hid (Lib.runeCount s = t) := ht
      have HU : Hid (Lib.runeCount (s.extract 0 r) = u) := hu
      have HV : Hid (Lib.runeCount (s.extract r s.size) = v) := hv
      have z1 : (s.extract 0 r).size ≤ 9223372036854775807 := by rw [Cut.size_extract s 0 r (by omega)]; omega
      have z2 : (s.extract r s.size).size ≤ 9223372036854775807 := by rw [Cut.size_extract s r s.size (Nat.le_refl _)]; omega
      subst l2
      have h2 : (((u : Int) + (v : Int)) == (t : Int)) = true := by simp; omega
      have h3 : (u : Int) + (v : Int) ≤ 9223372036854775807 := by omega
      have hrs : (r : Int) < (s.size : Int) := by omega
      clear hr ht hu hv l3
      go_enter Yba.func3, Yba.ntmps3
      go_wp2_with fail
      refine (index_any s _ _ hn hn').mono ?_
      rintro e w1 ⟨rfl, p1, rfl⟩
      rw [HR.out]
      go_wp2_with fail
      refine (count_any s _ hs).mono ?_
      rintro e w1 ⟨rfl, p2, rfl⟩
      rw [HT.out]
      go_wp2_with fail
      refine (count_any (s.extract 0 r) _ z1).mono ?_
      rintro e w1 ⟨rfl, p3, rfl⟩
      rw [HU.out]
      go_wp2_with fail
      refine (count_any (s.extract r s.size) _ z2).mono ?_
      rintro e w1 ⟨rfl, p4, rfl⟩
      rw [HV.out]
      go_wp2
      go_ret
      exact ⟨rfl, below_iter (below_iter (below_iter (below_iter (Below.refl _ _) (Nat.le_refl _) _ _) (by rw [size_iter]; omega) _ _) (by rw [size_iter, size_iter]; omega) _ _) (by rw [size_iter, size_iter, size_iter]; omega) _ _⟩
end Go.Proofs.Ybulkcmzk
