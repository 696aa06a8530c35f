/-
  EscapeVersion, the check, and LawS4440BModel, walked.
-/
import Derived.Test.YbulkcmxuFmtModelW
import Derived.WalkKit
import Derived.WalkSpells
import Derived.WalkLawsBesides
namespace Go.Proofs.YbulkcmxuFmt
open Go.RowKit Go.Extern.Stop Go.Stop Go.Extern

theorem build31 (p q : ByteArray) (w : World) : (Instr.build 31 #[(0, .string p), (1, .string q)]).run Ybaf.prog w = .ok (.agg #[.string p, .string q]) w := run_build w 31 _ _ (by kernel_rfl)
theorem ans_of {F : Interp} {w w' : World} {B : Nat} (hF : F.answers w.tape) (h : Below B w w') : F.answers w'.tape := by rw [h.tape]; exact hF

set_option maxRecDepth 100000 in
set_option maxHeartbeats 1000000 in
theorem escapeVersion_any (F : Interp) (p q : ByteArray) (w : World) (hF : F.answers w.tape) (hp : p.size ≤ 1024) (hq : q.size ≤ 1024) :
    Calls Ybaf.prog 7 #[.agg #[.string p, .string q]] w fun e w' => Below w.heap.size w w' ∧
      ((Esc.good p.data.toList = true ∧ Esc.good q.data.toList = true ∧ e = .returned (.tuple #[.string ⟨(Esc.esc p.data.toList).toArray⟩, .string ⟨(Esc.esc q.data.toList).toArray⟩, .nilIface])) ∨
       ((Esc.good p.data.toList && Esc.good q.data.toList) = false ∧ ∃ a, e = .returned (.tuple #[.string ⟨#[]⟩, .string ⟨#[]⟩, .iface 47 (.pointer (some a))]))) := by
  go_enter Ybaf.func7, Ybaf.ntmps7
  go_wp2_with fail
  refine (escape_any F p _ (by exact hF) hp).mono ?_
  rintro e w1 ⟨hb1, ⟨hg, rfl⟩ | ⟨hg, a, rfl⟩⟩
  · have hc1 : w1.cell? ⟨w.heap.size, 1, none⟩ = some (.string q) := by rw [hb1.cell (by simp)]; simp [go_sem]
    have HB1 : Hid (Below w.heap.size w w1) := ((Below.refl _ w).alloc (Nat.le_refl _) _).trans (hb1.mono (by simp))
    have hF1 : F.answers w1.tape := ans_of hF HB1.out
    have HG : Hid (Esc.good p.data.toList = true) := hg
    have hz1 : w.heap.size ≤ w1.heap.size := HB1.out.size
    clear hb1 hg
    go_wp2_with fail
    refine (escape_any F q _ hF1 hq).mono ?_
    rintro e w2 ⟨hb2, ⟨hg2, rfl⟩ | ⟨hg2, a, rfl⟩⟩
    · have HB2 : Hid (Below w.heap.size w w2) := HB1.out.trans (hb2.mono hz1)
      have HG2 : Hid (Esc.good q.data.toList = true) := hg2
      clear hb2 hg2
      go_wp2
      go_ret3
      exact ⟨HB2.out, .inl ⟨HG.out, HG2.out, rfl⟩⟩
    · have HB2 : Hid (Below w.heap.size w w2) := HB1.out.trans (hb2.mono hz1)
      have HG2 : Hid (Esc.good q.data.toList = false) := hg2
      clear hb2 hg2
      go_wp2
      go_ret3
      exact ⟨HB2.out, .inr ⟨by rw [HG2.out]; simp, a, rfl⟩⟩
  · have HB1 : Hid (Below w.heap.size w w1) := ((Below.refl _ w).alloc (Nat.le_refl _) _).trans (hb1.mono (by simp))
    have HG : Hid (Esc.good p.data.toList = false) := hg
    clear hb1 hg
    go_wp2
    go_ret3
    exact ⟨HB1.out, .inr ⟨by rw [HG.out]; simp, a, rfl⟩⟩

set_option maxRecDepth 100000 in
set_option maxHeartbeats 1000000 in
theorem check_any (F : Interp) (p q : ByteArray) (w : World) (hF : F.answers w.tape) (hp : p.size ≤ 1024) (hq : q.size ≤ 1024) :
    Calls Ybaf.prog 5 #[.string p, .string q] w fun e w' => e = .returned (.bool true) ∧ Below w.heap.size w w' := by
  have h31 := build31 p q
  go_enter Ybaf.func5, Ybaf.ntmps5
  go_wp2_with fail
  refine (escapeVersion_any F p q _ (by exact hF) hp hq).mono ?_
  rintro e w1 ⟨hb1, ⟨g1, g2, rfl⟩ | ⟨g1, a, rfl⟩⟩
  · have HB1 : Hid (Below w.heap.size w w1) := hb1
    have hz1 : w.heap.size ≤ w1.heap.size := hb1.size
    have G1 : Hid (Esc.good p.data.toList = true) := g1
    have G2 : Hid (Esc.good q.data.toList = true) := g2
    clear hb1 g1 g2
    go_wp2_with fail
    refine (model_any p _ hp).mono ?_
    rintro e w2 ⟨hb2, ⟨_, rfl⟩ | ⟨hg2, rfl⟩⟩
    · have HB2 : Hid (Below w.heap.size w w2) := HB1.out.trans (hb2.mono hz1)
      have hz2 : w.heap.size ≤ w2.heap.size := HB2.out.size
      clear hb2
      go_wp2_with fail
      refine (model_any q _ hq).mono ?_
      rintro e w3 ⟨hb3, ⟨_, rfl⟩ | ⟨hg3, rfl⟩⟩
      · have HB3 : Hid (Below w.heap.size w w3) := HB2.out.trans (hb3.mono hz2)
        clear hb3
        go_wp2
        go_ret
        exact ⟨rfl, HB3.out⟩
      · rw [G2.out] at hg3; cases hg3
    · rw [G1.out] at hg2; cases hg2
  · have HB1 : Hid (Below w.heap.size w w1) := hb1
    have hz1 : w.heap.size ≤ w1.heap.size := hb1.size
    have G1 : Hid ((Esc.good p.data.toList && Esc.good q.data.toList) = false) := g1
    clear hb1 g1
    go_wp2_with fail
    refine (model_any p _ hp).mono ?_
    rintro e w2 ⟨hb2, ⟨hg2, rfl⟩ | ⟨hg2, rfl⟩⟩
    · have HB2 : Hid (Below w.heap.size w w2) := HB1.out.trans (hb2.mono hz1)
      have hz2 : w.heap.size ≤ w2.heap.size := HB2.out.size
      have G2 : Hid (Esc.good p.data.toList = true) := hg2
      clear hb2 hg2
      go_wp2_with fail
      refine (model_any q _ hq).mono ?_
      rintro e w3 ⟨hb3, ⟨hg3, rfl⟩ | ⟨hg3, rfl⟩⟩
      · have := G1.out; rw [G2.out, hg3] at this; cases this
      · have HB3 : Hid (Below w.heap.size w w3) := HB2.out.trans (hb3.mono hz2)
        clear hb3 hg3
        go_wp2
        go_ret
        exact ⟨rfl, HB3.out⟩
    · have HB2 : Hid (Below w.heap.size w w2) := HB1.out.trans (hb2.mono hz1)
      have hz2 : w.heap.size ≤ w2.heap.size := HB2.out.size
      clear hb2 hg2
      go_wp2_with fail
      refine (model_any q _ hq).mono ?_
      rintro e w3 ⟨hb3, ⟨hg3, rfl⟩ | ⟨hg3, rfl⟩⟩
      · have HB3 : Hid (Below w.heap.size w w3) := HB2.out.trans (hb3.mono hz2)
        clear hb3 hg3
        go_wp2
        go_ret
        exact ⟨rfl, HB3.out⟩
      · have HB3 : Hid (Below w.heap.size w w3) := HB2.out.trans (hb3.mono hz2)
        clear hb3 hg3
        go_wp2
        go_ret
        exact ⟨rfl, HB3.out⟩

/-- LawS4440BModel. -/
theorem lawModel_any (F : Interp) (p q : ByteArray) (w : World) (hF : F.answers w.tape) (hps : p.size ≤ maxLen) (hqs : q.size ≤ maxLen) :
    Calls Ybaf.prog 3 #[.string p, .string q] w fun e w' => e = .returned (.bool true) ∧ Below w.heap.size w w' := by
  unfold maxLen at hps hqs
  by_cases hp : p.size ≤ 1024
  · by_cases hq : q.size ≤ 1024
    · have h1 : ¬ (1024 : Int) < (p.size : Int) := by omega
      have h2 : ¬ (1024 : Int) < (q.size : Int) := by omega
      go_enter Ybaf.func3, Ybaf.ntmps3
      go_wp2_with (go_at_call 5; refine (check_any F p q _ (by exact hF) hp hq).mono ?_; rintro e w1 ⟨rfl, hb⟩)
      go_ret
      exact ⟨rfl, hb⟩
    · have h1 : ¬ (1024 : Int) < (p.size : Int) := by omega
      have h2 : (1024 : Int) < (q.size : Int) := by omega
      go_enter Ybaf.func3, Ybaf.ntmps3
      go_wp2
      go_ret
      exact ⟨rfl, Below.refl _ _⟩
  · have h1 : (1024 : Int) < (p.size : Int) := by omega
    go_enter Ybaf.func3, Ybaf.ntmps3
    go_wp2
    go_ret
    exact ⟨rfl, Below.refl _ _⟩
end Go.Proofs.YbulkcmxuFmt
