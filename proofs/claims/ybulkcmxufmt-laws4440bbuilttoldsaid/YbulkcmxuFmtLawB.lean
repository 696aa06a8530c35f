/-
  zzs4440bbuild and LawS4440BBuilt, walked.
-/
import Derived.Test.YbulkcmxuFmtLawM
import Derived.WalkKit
import Derived.WalkSpells
import Derived.WalkLawsBesides
namespace Go.Proofs.YbulkcmxuFmt
open Go.RowKit Go.Extern.Stop Go.Stop Go.Extern

set_option maxRecDepth 100000 in
set_option maxHeartbeats 1000000 in
theorem build_any (ao : Option Addr) (b0 off0 len0 cap0 : Nat) (z : Nat → Int) (w : World) (hlen : len0 ≤ 1024) (hao : 0 < len0 → ao = some ⟨b0, off0, none⟩)
    (hops : ∀ k, k < len0 → w.cell? ⟨b0, off0 + k, none⟩ = some (.int .u8 (z k))) (hwf : ∀ k, 0 ≤ z k ∧ z k < 256) (hb0 : 0 < len0 → b0 < w.heap.size) :
    Calls Ybaf.prog 6 #[.slice ao len0 cap0] w fun e w' => ∃ s : ByteArray, s.size = len0 ∧ e = .returned (.string s) ∧ Below w.heap.size w w' := by
  obtain ⟨i0, hi, hz0, hz1, hz2⟩ := info_parts info5
  go_enter Ybaf.func6, Ybaf.ntmps6
  go_wp2_with (at_make; refine wpList_make_own _ rfl _ _ 23 rfl w.heap.size 5 i0 (.int .u8 0) 1 Ybaf.underlying23 hi hz0 hz1 .i64 .i64 _ len0 rfl rfl (by omega) (by rw [hz2]; omega) (by unfold maxLen; omega) (Nat.le_refl _) ?_; intro w0 hown0 hgrow0)
  have hb0' : Below w.heap.size w w0 := (Below.refl _ w).grown hgrow0 (Nat.le_refl _) (fun k h => by cases h)
  have hz0' : w.heap.size ≤ w0.heap.size := hgrow0.size
  go_loopw [3, 4] (fun v i wr => ∃ (k g cp : Nat) (l : List UInt8), k ≤ len0 ∧ l.length = k ∧ i = .int .i64 k ∧ v = .slice (some ⟨g, 0, none⟩) k cp ∧ wr.ownsRow w.heap.size 5 1 v k (Lib.byteCells l) ∧ Below w.heap.size w wr ∧ w.heap.size ≤ wr.heap.size) (fun _ i _ => len0 - (intOf i).toNat)
  case atStart => exact ⟨0, _, _, [], Nat.zero_le _, rfl, rfl, rfl, hown0, hb0', hz0'⟩
  case round =>
    clear hb0' hz0' hown0 hgrow0
    obtain ⟨k, g, cp, l, hk, hll, rfl, rfl, hown, hbw, hz⟩ := hrel
    have HLL : Hid (l.length = k) := hll
    have HBW : Hid (Below w.heap.size w wr) := hbw
    clear hll
    by_cases hlt : k < len0
    · have hao' := hao (by omega)
      subst hao'
      obtain ⟨x, hx⟩ : ∃ x, z k = x := ⟨_, rfl⟩
      have hcx : wr.cell? ⟨b0, off0 + k, none⟩ = some (.int .u8 x) := by rw [← hx]; exact (hbw.cell (by exact hb0 (by omega))).trans (hops k hlt)
      have hxb : 0 ≤ x ∧ x < 256 := by rw [← hx]; exact hwf k
      have hr0 : (0 : Int) ≤ x % 19 := Int.emod_nonneg _ (by decide)
      have hr1 : x % 19 < 19 := Int.emod_lt_of_pos _ (by decide)
      obtain ⟨r, hr⟩ := Int.eq_ofNat_of_zero_le hr0
      have hr2 : (r : Int) < 19 := by omega
      clear hr0 hr1 hx hbw
      have hyr : r < (⟨#[97, 98, 122, 65, 77, 90, 48, 57, 47, 46, 45, 95, 126, 64, 66, 113, 33, 128, 32]⟩ : ByteArray).size := by
        show r < 19
        omega
      obtain ⟨u, hu⟩ : ∃ u : UInt8, (⟨#[97, 98, 122, 65, 77, 90, 48, 57, 47, 46, 45, 95, 126, 64, 66, 113, 33, 128, 32]⟩ : ByteArray)[r] = u := ⟨_, rfl⟩
      obtain ⟨y, hy⟩ : ∃ y : Int, ((⟨#[97, 98, 122, 65, 77, 90, 48, 57, 47, 46, 45, 95, 126, 64, 66, 113, 33, 128, 32]⟩ : ByteArray)[r].toNat : Int) = y := ⟨_, rfl⟩
      have HY : Hid ((u.toNat : Int) = y) := by rw [← hu]; exact hy
      clear hu
      go_wp2_with (at_builtin; refine wpList_append_own _ rfl _ _ 23 rfl w.heap.size 5 i0 (.int .u8 0) 1 1 Ybaf.underlying23 hi hz0 hz1 hz2 rfl (by decide) _ _ _ rfl (hown.alloc _) ⟨wr.heap.size, 0, none⟩ 1 1 [.int .u8 y] rfl rfl ?c1 ?c2 ?c3 ?c4 ?c5 ?_)
      case c2 => rfl
      case c3 => unfold maxLen; omega
      case c4 => omega
      case c5 => omega
      intro v' w2 hown' hgrow hnn
      obtain ⟨g2, c2, hv'⟩ := own_some hown' hnn
      subst hv'
      have hz2' : w.heap.size ≤ w2.heap.size := by have := hgrow.size; simp at this; omega
      have R1 : Hid (w2.ownsRow w.heap.size 5 1 (.slice (some ⟨g2, 0, none⟩) (k + 1) c2) (k + 1) (Lib.byteCells (l ++ [u]))) := by
        rw [Lib.byteCells_append]
        show World.ownsRow _ _ _ _ _ _ (_ ++ [.int .u8 (u.toNat : Int)])
        rw [HY.out]; exact hown'
      have R2 : Hid (Below w.heap.size w w2) := (HBW.out.alloc hz _).grown hgrow (by simp; omega) (fun k h => (hown.lt k h).1)
      have HL2 : Hid ((l ++ [u]).length = k + 1) := by have := HLL.out; show _ = _; simp [this]
      clear hown' hgrow hnn
      go_wp2
      go_roundw
      case rel => exact ⟨k + 1, g2, c2, l ++ [u], by omega, HL2.out, by go_num, rfl, R1.out, R2.out, hz2'⟩
      case measure => simp [intOf]; omega
    · obtain rfl : k = len0 := by omega
      have hll := HLL.out
      have hcv : (convert 23 9 (.slice (some ⟨g, 0, none⟩) k cp)).run Ybaf.prog wr = .ok (.string ⟨l.toArray⟩) wr := by
        subst hll
        refine run_convert_bytes_back wr 23 9 5 ⟨g, 0, none⟩ cp _ Ybaf.underlying23 Ybaf.underlying5 Ybaf.underlying9 fun j hj => ?_
        refine hown.cells (g := g) rfl j _ ?_
        simp [Lib.byteCells, hj]
      clear hll
      go_wp2
      go_ret
      refine ⟨⟨l.toArray⟩, ?_, rfl, HBW.out⟩
      have := HLL.out
      simp [ByteArray.size, this]

/-- LawS4440BBuilt. -/
theorem lawBuilt_any (F : Interp) (ao a1 : Option Addr) (b0 off0 len0 cap0 b1 off1 len1 cap1 : Nat) (z y : Nat → Int) (w : World) (hF : F.answers w.tape) (hl0 : len0 ≤ 1024) (hl1 : len1 ≤ 1024)
    (hao : 0 < len0 → ao = some ⟨b0, off0, none⟩) (ha1 : 0 < len1 → a1 = some ⟨b1, off1, none⟩)
    (h0 : ∀ k, k < len0 → w.cell? ⟨b0, off0 + k, none⟩ = some (.int .u8 (z k))) (w0 : ∀ k, 0 ≤ z k ∧ z k < 256) (hb0 : 0 < len0 → b0 < w.heap.size)
    (h1 : ∀ k, k < len1 → w.cell? ⟨b1, off1 + k, none⟩ = some (.int .u8 (y k))) (w1 : ∀ k, 0 ≤ y k ∧ y k < 256) (hb1 : 0 < len1 → b1 < w.heap.size) :
    Calls Ybaf.prog 4 #[.slice ao len0 cap0, .slice a1 len1 cap1] w fun e w' => e = .returned (.bool true) ∧ Below w.heap.size w w' := by
  have g1 : ¬ (1024 : Int) < (len0 : Int) := by omega
  have g2 : ¬ (1024 : Int) < (len1 : Int) := by omega
  go_enter Ybaf.func4, Ybaf.ntmps4
  go_wp2_with fail
  refine (build_any ao b0 off0 len0 cap0 z _ hl0 hao h0 w0 hb0).mono ?_
  rintro e wa ⟨sa, hsa, rfl, hba⟩
  have hza : w.heap.size ≤ wa.heap.size := hba.size
  have h1' : ∀ k, k < len1 → wa.cell? ⟨b1, off1 + k, none⟩ = some (.int .u8 (y k)) := fun k hk => (hba.cell (by exact hb1 (by omega))).trans (h1 k hk)
  have hb1' : 0 < len1 → b1 < wa.heap.size := fun h => Nat.lt_of_lt_of_le (hb1 h) hza
  have HSA : Hid (sa.size = len0) := hsa
  have HBA : Hid (Below w.heap.size w wa) := hba
  have H1 : Hid (∀ k, k < len1 → wa.cell? ⟨b1, off1 + k, none⟩ = some (.int .u8 (y k))) := h1'
  clear hsa hba h0 h1 h1'
  go_wp2_with fail
  refine (build_any a1 b1 off1 len1 cap1 y _ hl1 ha1 H1.out w1 hb1').mono ?_
  rintro e wb ⟨sb, hsb, rfl, hbb⟩
  have HBB : Hid (Below w.heap.size w wb) := HBA.out.trans (hbb.mono hza)
  have HSB : Hid (sb.size = len1) := hsb
  have hzb : w.heap.size ≤ wb.heap.size := HBB.out.size
  clear hsb hbb
  go_wp2_with fail
  refine (check_any F sa sb _ (ans_of hF HBB.out) (by have := HSA.out; omega) (by have := HSB.out; omega)).mono ?_
  rintro e wc ⟨rfl, hbc⟩
  have HBC : Hid (Below w.heap.size w wc) := HBB.out.trans (hbc.mono hzb)
  clear hbc
  go_wp2
  go_ret
  exact ⟨rfl, HBC.out⟩

theorem lawBuilt_big (ao a1 : Option Addr) (len0 cap0 len1 cap1 : Nat) (w : World) (h : 1024 < len0 ∨ 1024 < len1) :
    Calls Ybaf.prog 4 #[.slice ao len0 cap0, .slice a1 len1 cap1] w fun e w' => e = .returned (.bool true) ∧ Below w.heap.size w w' := by
  by_cases h0 : 1024 < len0
  · have g1 : (1024 : Int) < (len0 : Int) := by omega
    go_enter Ybaf.func4, Ybaf.ntmps4
    go_wp2
    go_ret
    exact ⟨rfl, Below.refl _ _⟩
  · have g1 : ¬ (1024 : Int) < (len0 : Int) := by omega
    have g2 : (1024 : Int) < (len1 : Int) := by omega
    clear h
    go_enter Ybaf.func4, Ybaf.ntmps4
    go_wp2
    go_ret
    exact ⟨rfl, Below.refl _ _⟩
end Go.Proofs.YbulkcmxuFmt
