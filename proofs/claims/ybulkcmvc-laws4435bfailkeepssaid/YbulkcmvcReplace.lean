import Derived.Test.YbulkcmvcRun
import Derived.Laws.AppendOwn
import Derived.Laws.OwnMore
import Derived.WalkKit
import Derived.WalkSpells
import Derived.BigRegion
import Derived.BigQuiet
import Derived.Deep.QuietTactic
import Derived.WalkLawsBesides
import Derived.Handy
namespace Go.Proofs.Ybulkcmvc
open Go.RowKit
theorem own_take {w : World} {base : Nat} {e : TypeId} {size g n cap k : Nat} {xs pre last : List Value} (h : w.ownsRow base e size (.slice (some ⟨g, 0, none⟩) n cap) n xs) (hx : xs = pre ++ last) (hp : pre.length = k * size) (hk : k ≤ n) :
    w.ownsRow base e size (.slice (some ⟨g, 0, none⟩) k cap) k pre := by
  obtain ⟨hl, h2⟩ := h
  rcases h2 with ⟨hv, _⟩ | ⟨g', cap', cur, hv, hb, hh, hnc, hcm, hcs, ht⟩
  · simp at hv
  · simp at hv
    obtain ⟨rfl, rfl⟩ := hv
    refine ⟨hp, .inr ⟨g, cap, cur, rfl, hb, hh, by omega, hcm, hcs, ?_⟩⟩
    have hm : k * size ≤ n * size := Nat.mul_le_mul_right _ hk
    have := congrArg (List.take (k * size)) ht
    rw [List.take_take, Nat.min_eq_left hm, hx, List.take_append_of_le_length (Nat.le_of_eq hp.symm), List.take_of_length_le (Nat.le_of_eq hp)] at this
    exact this
theorem own_cap {w : World} {base : Nat} {e : TypeId} {size g n cap : Nat} {xs : List Value} (h : w.ownsRow base e size (.slice (some ⟨g, 0, none⟩) n cap) n xs) : n ≤ cap ∧ cap ≤ maxLen ∧ base ≤ g ∧ g < w.heap.size := by
  obtain ⟨hl, h2⟩ := h
  rcases h2 with ⟨hv, _⟩ | ⟨g', cap', cur, hv, hb, hh, hnc, hcm, hcs, ht⟩
  · simp at hv
  · simp at hv
    obtain ⟨rfl, rfl⟩ := hv
    exact ⟨hnc, hcm, hb, lt_t hh⟩
theorem own_some {w : World} {base : Nat} {e : TypeId} {size : Nat} {v : Value} {n : Nat} {xs : List Value} (h : w.ownsRow base e size v n xs) (hn : 0 < n) : ∃ g cap, v = .slice (some ⟨g, 0, none⟩) n cap := by
  rcases h.2 with ⟨_, h0⟩ | ⟨g, cap, cur, rfl, _⟩
  · omega
  · exact ⟨g, cap, rfl⟩
theorem info38 : (Yba.prog.info? 38).map (fun i => (i.zero, i.size, i.bytes)) = some (some zeroPeer, 6, 64) := by kernel_rfl
theorem info5 : (Yba.prog.info? 5).map (fun i => (i.zero, i.size, i.bytes)) = some (some (.int .u8 0), 1, 1) := by kernel_rfl

set_option maxRecDepth 100000 in
set_option maxHeartbeats 1000000 in
/-- slices.Replace of the last element by m others. -/
theorem replace41 (base g k cap m c : Nat) (ad : Addr) (pre last news : List Value) (hk : k < 16) (hm1 : 1 ≤ m) (hm2 : m ≤ 3) (w : World) (hown : w.ownsRow base 38 6 (.slice (some ⟨g, 0, none⟩) (k + 1) cap) (k + 1) (pre ++ last)) (hp : pre.length = k * 6)
    (hl : news.length = m * 6) (hnews : ∀ j u, news[j]? = some u → w.cell? (ad.add j) = some u) (h1 : ∀ u ∈ news, u.oneCell' = true) (hbase : base ≤ w.heap.size) :
    Calls Yba.prog 41 #[.slice (some ⟨g, 0, none⟩) (k + 1) cap, .int .i64 k, .int .i64 ((k : Int) + 1), .slice (some ad) m c] w fun e w' => ∃ v', e = .returned v' ∧ w'.ownsRow base 38 6 v' (k + m) (pre ++ news) ∧ w.grownBy w' (some g) := by
  obtain ⟨i0, hi, hz0, hz1, hz2⟩ := info_parts info38
  obtain ⟨q1, q2, q3, q4⟩ := own_cap hown
  have ht := own_take hown rfl hp (by omega)
  have HT : Hid (w.ownsRow base 38 6 (.slice (some ⟨g, 0, none⟩) k cap) k pre) := ht
  have HN := And.intro (a := Hid _) (b := Hid _) hnews h1
  have b1 : (k : Int) + 1 ≤ (cap : Int) := by omega
  have b2 : (k : Int) ≤ (cap : Int) := by omega
  have b3 : ¬ ((k : Int) = (k : Int) + 1) := by omega
  have b4 : ((k : Int) == (k : Int) + 1) = false := by simp; omega
  have b5 : ((k : Int) + 1 == (k : Int) + 1) = true := by simp
  have b6 : ¬ ((k : Int) + (m : Int) < (k : Int) + 1) := by omega
  clear hown ht hnews h1
  go_enter Yba.func41, Yba.ntmps41
  go_wp2_with (at_builtin; refine wpList_append_own _ rfl _ _ 32 rfl base 38 i0 zeroPeer 6 64 Yba.underlying32 hi hz0 hz1 hz2 rfl (by decide) _ _ _ rfl HT.out ad m c news rfl hl HN.1.out HN.2.out ?c1 ?c2 hbase ?_)
  case c1 => unfold maxLen; omega
  case c2 => omega
  intro v' w1 hown' hgrow _
  obtain ⟨g', cap', hv'⟩ := own_some hown' (by omega)
  subst hv'
  have HO : Hid _ := hown'
  have HG : Hid _ := hgrow
  clear hown' hgrow
  go_wp2
  go_ret
  exact ⟨_, rfl, HO.out, HG.out⟩

set_option maxRecDepth 100000 in
set_option maxHeartbeats 1000000 in
/-- slices.Replace of the last element by m others. -/
theorem replace42 (base g k cap m c : Nat) (ad : Addr) (pre last news : List Value) (hk : k < 16) (hm1 : 1 ≤ m) (hm2 : m ≤ 3) (w : World) (hown : w.ownsRow base 5 1 (.slice (some ⟨g, 0, none⟩) (k + 1) cap) (k + 1) (pre ++ last)) (hp : pre.length = k * 1)
    (hl : news.length = m * 1) (hnews : ∀ j u, news[j]? = some u → w.cell? (ad.add j) = some u) (h1 : ∀ u ∈ news, u.oneCell' = true) (hbase : base ≤ w.heap.size) :
    Calls Yba.prog 42 #[.slice (some ⟨g, 0, none⟩) (k + 1) cap, .int .i64 k, .int .i64 ((k : Int) + 1), .slice (some ad) m c] w fun e w' => ∃ v', e = .returned v' ∧ w'.ownsRow base 5 1 v' (k + m) (pre ++ news) ∧ w.grownBy w' (some g) := by
  obtain ⟨i0, hi, hz0, hz1, hz2⟩ := info_parts info5
  obtain ⟨q1, q2, q3, q4⟩ := own_cap hown
  have ht := own_take hown rfl hp (by omega)
  have HT : Hid (w.ownsRow base 5 1 (.slice (some ⟨g, 0, none⟩) k cap) k pre) := ht
  have HN := And.intro (a := Hid _) (b := Hid _) hnews h1
  have b1 : (k : Int) + 1 ≤ (cap : Int) := by omega
  have b2 : (k : Int) ≤ (cap : Int) := by omega
  have b3 : ¬ ((k : Int) = (k : Int) + 1) := by omega
  have b4 : ((k : Int) == (k : Int) + 1) = false := by simp; omega
  have b5 : ((k : Int) + 1 == (k : Int) + 1) = true := by simp
  have b6 : ¬ ((k : Int) + (m : Int) < (k : Int) + 1) := by omega
  clear hown ht hnews h1
  go_enter Yba.func42, Yba.ntmps42
  go_wp2_with (at_builtin; refine wpList_append_own _ rfl _ _ 30 rfl base 5 i0 (.int .u8 0) 1 1 Yba.underlying30 hi hz0 hz1 hz2 rfl (by decide) _ _ _ rfl HT.out ad m c news rfl hl HN.1.out HN.2.out ?c1 ?c2 hbase ?_)
  case c1 => unfold maxLen; omega
  case c2 => omega
  intro v' w1 hown' hgrow _
  obtain ⟨g', cap', hv'⟩ := own_some hown' (by omega)
  subst hv'
  have HO : Hid _ := hown'
  have HG : Hid _ := hgrow
  clear hown' hgrow
  go_wp2
  go_ret
  exact ⟨_, rfl, HO.out, HG.out⟩
end Go.Proofs.Ybulkcmvc
