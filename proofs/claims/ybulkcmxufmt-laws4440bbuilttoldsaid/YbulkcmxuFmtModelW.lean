/-
  zzs4440bmodel, walked.
-/
import Derived.Test.YbulkcmxuFmtEscape
import Derived.WalkKit
import Derived.WalkSpells
import Derived.WalkLawsBesides
namespace Go.Proofs.YbulkcmxuFmt
open Go.RowKit Go.Extern.Stop Go.Stop Go.Extern

theorem own_some {w : World} {base : Nat} {e : TypeId} {size : Nat} {v : Value} {n : Nat} {xs : List Value} (h : w.ownsRow base e size v n xs) (hn : v ≠ .slice none 0 0) : ∃ g cap, v = .slice (some ⟨g, 0, none⟩) n cap := by
  rcases h.2 with ⟨h0, _⟩ | ⟨g, cap, cur, rfl, _⟩
  · exact absurd h0 hn
  · exact ⟨g, cap, rfl⟩

set_option maxRecDepth 100000 in
set_option maxHeartbeats 1000000 in
theorem model_any (s : ByteArray) (w : World) (hs : s.size ≤ 1024) :
    Calls Ybaf.prog 8 #[.string s] w fun e w' => Below w.heap.size w w' ∧
      ((Esc.good s.data.toList = true ∧ e = .returned (.tuple #[.string ⟨(Esc.esc s.data.toList).toArray⟩, .bool true])) ∨
       (Esc.good s.data.toList = false ∧ e = .returned (.tuple #[.string ⟨#[]⟩, .bool false]))) := by
  obtain ⟨i0, hi, hz0, hz1, hz2⟩ := info_parts info5
  go_enter Ybaf.func8, Ybaf.ntmps8
  go_wp2_with (at_make; refine wpList_make_own _ rfl _ _ 23 rfl w.heap.size 5 i0 (.int .u8 0) 1 Ybaf.underlying23 hi hz0 hz1 .i64 .i64 _ (2 * s.size) rfl rfl (by omega) (by rw [hz2]; omega) (by unfold maxLen; omega) (Nat.le_refl _) ?_; intro w0 hown0 hgrow0)
  have hb0 : Below w.heap.size w w0 := (Below.refl _ w).grown hgrow0 (Nat.le_refl _) (fun k h => by cases h)
  have hz0' : w.heap.size ≤ w0.heap.size := hgrow0.size
  go_loopw [4, 5] (fun v i wr => ∃ (k g cp : Nat), k ≤ s.size ∧ i = .int .i64 k ∧ v = .slice (some ⟨g, 0, none⟩) (Esc.esc (s.data.toList.take k)).length cp ∧ wr.ownsRow w.heap.size 5 1 v (Esc.esc (s.data.toList.take k)).length (Lib.byteCells (Esc.esc (s.data.toList.take k))) ∧ Below w.heap.size w wr ∧ w.heap.size ≤ wr.heap.size ∧ Esc.good (s.data.toList.take k) = true) (fun _ i _ => s.size - (intOf i).toNat)
  case atStart => exact ⟨0, _, _, Nat.zero_le _, rfl, rfl, hown0, hb0, hz0', rfl⟩
  case round =>
    clear hb0 hz0' hown0 hgrow0
    obtain ⟨k, g, cp, hk, rfl, rfl, hown, hbw, hz, hg⟩ := hrel
    have hlen : (Esc.esc (s.data.toList.take k)).length ≤ 2048 := by
      have h1 := Esc.esc_len (s.data.toList.take k)
      have h2 : (s.data.toList.take k).length ≤ k := List.length_take_le _ _
      omega
    obtain ⟨n, hn⟩ : ∃ n, (Esc.esc (s.data.toList.take k)).length = n := ⟨_, rfl⟩
    obtain ⟨xs, hxs⟩ : ∃ xs, Lib.byteCells (Esc.esc (s.data.toList.take k)) = xs := ⟨_, rfl⟩
    rw [hn] at hlen
    rw [hn, hxs] at hown
    rw [hn]
    have HN : Hid ((Esc.esc (s.data.toList.take k)).length = n) := hn
    have HXS : Hid (Lib.byteCells (Esc.esc (s.data.toList.take k)) = xs) := hxs
    have HG : Hid (Esc.good (s.data.toList.take k) = true) := hg
    have HBW : Hid (Below w.heap.size w wr) := hbw
    clear hn hxs hg hbw
    by_cases hlt : k < s.size
    · have HT : Hid (s.data.toList.take (k + 1) = s.data.toList.take k ++ [s[k]]) := take_snoc s k hlt
      obtain ⟨c, hc⟩ : ∃ c : Int, (s[k].toNat : Int) = c := ⟨_, rfl⟩
      have hb : 0 ≤ c ∧ c < 256 := by rw [← hc]; have := s[k].toNat_lt; omega
      have HB : Hid (Esc.bad s[k] = decide (c = 33 ∨ c ≤ 32 ∨ 126 < c)) := by rw [← hc]; exact Esc.bad_iff _
      have HCC : Hid ((s[k].toNat : Int) = c) := hc
      by_cases h1 : c = 33 ∨ c ≤ 32 ∨ 126 < c
      · have fin : Esc.good s.data.toList = false := Esc.good_take (k := k + 1) (by rw [HT.out, Esc.good_snoc, HB.out]; simp; intro _; omega)
        have FIN : Hid (Esc.good s.data.toList = false) := fin
        clear fin
        by_cases h2 : c = 33
        · have h2' : (c == 33) = true := by simp [h2]
          clear h1 h2
          go_wp2
          go_ret2
          exact ⟨HBW.out, .inr ⟨FIN.out, rfl⟩⟩
        · have h2' : (c == 33) = false := by simp [h2]
          by_cases h3 : c ≤ 32
          · clear h1 h2
            go_wp2
            go_ret2
            exact ⟨HBW.out, .inr ⟨FIN.out, rfl⟩⟩
          · have h4 : 126 < c := by omega
            clear h1 h2
            go_wp2
            go_ret2
            exact ⟨HBW.out, .inr ⟨FIN.out, rfl⟩⟩
      · have h2' : (c == 33) = false := by simp; omega
        have h5 : ¬ c ≤ 32 := by omega
        have h6 : ¬ 126 < c := by omega
        have hg1 : Esc.good (s.data.toList.take (k + 1)) = true := by rw [HT.out, Esc.good_snoc, HB.out, HG.out]; simp; omega
        have HG1 : Hid (Esc.good (s.data.toList.take (k + 1)) = true) := hg1
        clear hg1 h1
        by_cases h7 : 65 ≤ c ∧ c ≤ 90
        · have HP := cells_cap (s.data.toList.take k) s[k] c HCC.out h7.1 h7.2
          rw [← HT.out, HXS.out] at HP
          have HP' : Hid (Lib.byteCells (Esc.esc (s.data.toList.take (k + 1))) = xs ++ [.int .u8 33, .int .u8 (c + 32)]) := by
            rw [HP, List.append_assoc, show c - 65 + 97 = c + 32 by omega]; rfl
          have HL : Hid ((Esc.esc (s.data.toList.take (k + 1))).length = n + 2) := by
            have := congrArg List.length HP'.out
            have h0 := congrArg List.length HXS.out
            rw [Lib.byteCells_length] at this h0
            rw [HN.out] at h0
            simp at this
            show _ = _
            omega
          clear HP
          obtain ⟨h8, h9⟩ := h7
          go_wp2_with (at_builtin; refine wpList_append_own _ rfl _ _ 23 rfl w.heap.size 5 i0 (.int .u8 0) 1 1 Ybaf.underlying23 hi hz0 hz1 hz2 rfl (by decide) _ _ _ rfl (hown.alloc _) ⟨wr.heap.size, 0, none⟩ 2 2 [.int .u8 33, .int .u8 (c + 32)] rfl rfl ?c1 ?c2 ?c3 ?c4 ?c5 ?_)
          case c2 => exact ⟨rfl, rfl⟩
          case c3 => unfold maxLen; omega
          case c4 => omega
          case c5 => omega
          intro v' w2 hown' hgrow hnn
          obtain ⟨g2, c2, hv'⟩ := own_some hown' hnn
          subst hv'
          have hz2' : w.heap.size ≤ w2.heap.size := by have := hgrow.size; simp at this; omega
          have R1 : Hid (w2.ownsRow w.heap.size 5 1 (.slice (some ⟨g2, 0, none⟩) (n + 2) c2) (Esc.esc (s.data.toList.take (k + 1))).length (Lib.byteCells (Esc.esc (s.data.toList.take (k + 1))))) := by
            rw [HP'.out, HL.out]; exact hown'
          have R2 : Hid (Below w.heap.size w w2) := (HBW.out.alloc hz _).grown hgrow (by simp; omega) (fun k h => (hown.lt k h).1)
          clear hown' hgrow hnn
          go_wp2
          go_roundw
          case rel => exact ⟨k + 1, g2, c2, by omega, by go_num, by rw [HL.out], R1.out, R2.out, hz2', HG1.out⟩
          case measure => simp [intOf]; omega
        · have HP := cells_plain (s.data.toList.take k) s[k] c HCC.out h7
          rw [← HT.out, HXS.out] at HP
          have HP' : Hid (Lib.byteCells (Esc.esc (s.data.toList.take (k + 1))) = xs ++ [.int .u8 c]) := HP
          have HL : Hid ((Esc.esc (s.data.toList.take (k + 1))).length = n + 1) := by
            have := congrArg List.length HP'.out
            have h0 := congrArg List.length HXS.out
            rw [Lib.byteCells_length] at this h0
            rw [HN.out] at h0
            simp at this
            show _ = _
            omega
          clear HP
          by_cases h8 : 65 ≤ c
          · have h9 : ¬ c ≤ 90 := by omega
            clear h7
            go_wp2_with (at_builtin; refine wpList_append_own _ rfl _ _ 23 rfl w.heap.size 5 i0 (.int .u8 0) 1 1 Ybaf.underlying23 hi hz0 hz1 hz2 rfl (by decide) _ _ _ rfl (hown.alloc _) ⟨wr.heap.size, 0, none⟩ 1 1 [.int .u8 c] rfl rfl ?d1 ?d2 ?d3 ?d4 ?d5 ?_)
            case d2 => rfl
            case d3 => unfold maxLen; omega
            case d4 => omega
            case d5 => omega
            intro v' w2 hown' hgrow hnn
            obtain ⟨g2, c2, hv'⟩ := own_some hown' hnn
            subst hv'
            have hz2' : w.heap.size ≤ w2.heap.size := by have := hgrow.size; simp at this; omega
            have R1 : Hid (w2.ownsRow w.heap.size 5 1 (.slice (some ⟨g2, 0, none⟩) (n + 1) c2) (Esc.esc (s.data.toList.take (k + 1))).length (Lib.byteCells (Esc.esc (s.data.toList.take (k + 1))))) := by
              rw [HP'.out, HL.out]; exact hown'
            have R2 : Hid (Below w.heap.size w w2) := (HBW.out.alloc hz _).grown hgrow (by simp; omega) (fun k h => (hown.lt k h).1)
            clear hown' hgrow hnn
            go_wp2
            go_roundw
            case rel => exact ⟨k + 1, g2, c2, by omega, by go_num, by rw [HL.out], R1.out, R2.out, hz2', HG1.out⟩
            case measure => simp [intOf]; omega
          · clear h7
            go_wp2_with (at_builtin; refine wpList_append_own _ rfl _ _ 23 rfl w.heap.size 5 i0 (.int .u8 0) 1 1 Ybaf.underlying23 hi hz0 hz1 hz2 rfl (by decide) _ _ _ rfl (hown.alloc _) ⟨wr.heap.size, 0, none⟩ 1 1 [.int .u8 c] rfl rfl ?e1 ?e2 ?e3 ?e4 ?e5 ?_)
            case e2 => rfl
            case e3 => unfold maxLen; omega
            case e4 => omega
            case e5 => omega
            intro v' w2 hown' hgrow hnn
            obtain ⟨g2, c2, hv'⟩ := own_some hown' hnn
            subst hv'
            have hz2' : w.heap.size ≤ w2.heap.size := by have := hgrow.size; simp at this; omega
            have R1 : Hid (w2.ownsRow w.heap.size 5 1 (.slice (some ⟨g2, 0, none⟩) (n + 1) c2) (Esc.esc (s.data.toList.take (k + 1))).length (Lib.byteCells (Esc.esc (s.data.toList.take (k + 1))))) := by
              rw [HP'.out, HL.out]; exact hown'
            have R2 : Hid (Below w.heap.size w w2) := (HBW.out.alloc hz _).grown hgrow (by simp; omega) (fun k h => (hown.lt k h).1)
            clear hown' hgrow hnn
            go_wp2
            go_roundw
            case rel => exact ⟨k + 1, g2, c2, by omega, by go_num, by rw [HL.out], R1.out, R2.out, hz2', HG1.out⟩
            case measure => simp [intOf]; omega
    · obtain rfl : k = s.size := by omega
      have et : s.data.toList.take s.size = s.data.toList := List.take_of_length_le (by simp)
      have hn := HN.out
      have hxs := HXS.out
      rw [et] at hn hxs
      have hcv : (convert 23 9 (.slice (some ⟨g, 0, none⟩) n cp)).run Ybaf.prog wr = .ok (.string ⟨(Esc.esc s.data.toList).toArray⟩) wr := by
        subst hn
        refine run_convert_bytes_back wr 23 9 5 ⟨g, 0, none⟩ cp _ Ybaf.underlying23 Ybaf.underlying5 Ybaf.underlying9 fun j hj => ?_
        refine hown.cells (g := g) rfl j _ ?_
        rw [← hxs]
        simp [Lib.byteCells, hj]
      have HGG : Hid (Esc.good s.data.toList = true) := by have := HG.out; rw [et] at this; exact this
      clear hn hxs et HN HXS HG
      go_wp2
      go_ret2
      exact ⟨HBW.out, .inl ⟨HGG.out, rfl⟩⟩
end Go.Proofs.YbulkcmxuFmt
