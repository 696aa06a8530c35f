/-
  module.Escape, walked: fmt.Errorf's stop is entered in place; strings.Builder by contracts.
-/
import Derived.Test.YbulkcmxuFmtEsc
import Derived.Test.YbulkcmxuFmtFmt
import Derived.Test.YbulkcmxuFmtBuilder
import Derived.WalkKit
import Derived.WalkSpells
import Derived.WalkLawsBesides
namespace Go.Proofs.YbulkcmxuFmt
open Go.RowKit Go.Extern.Stop Go.Stop Go.Extern

theorem take_snoc (s : ByteArray) (k : Nat) (h : k < s.size) : s.data.toList.take (k + 1) = s.data.toList.take k ++ [s[k]] := by
  rw [List.take_succ_eq_append_getElem (by simpa using h)]; rfl

theorem cells_cap (l : List UInt8) (x : UInt8) (c : Int) (hx : (x.toNat : Int) = c) (h1 : 65 ≤ c) (h2 : c ≤ 90) : Lib.byteCells (Esc.esc (l ++ [x])) = (Lib.byteCells (Esc.esc l) ++ [.int .u8 33]) ++ [.int .u8 (c - 65 + 97)] := by
  have hc : Esc.cap x = true := by rw [Esc.cap_iff, hx]; simp [h1, h2]
  have e : ((x + 32).toNat : Int) = c - 65 + 97 := by
    have : (x + 32).toNat = x.toNat + 32 := by rw [UInt8.toNat_add]; simp; omega
    omega
  rw [Esc.esc_snoc, Esc.one, if_pos hc, Lib.byteCells_append]
  simp only [Lib.byteCells, List.map_cons, List.map_nil, List.append_assoc, List.cons_append, List.nil_append]
  rw [e]; rfl
theorem cells_plain (l : List UInt8) (x : UInt8) (c : Int) (hx : (x.toNat : Int) = c) (h : ¬ (65 ≤ c ∧ c ≤ 90)) : Lib.byteCells (Esc.esc (l ++ [x])) = Lib.byteCells (Esc.esc l) ++ [.int .u8 c] := by
  have hc : Esc.cap x = false := by rw [Esc.cap_iff, hx]; simpa using h
  rw [Esc.esc_snoc, Esc.one, hc, Lib.byteCells_append]
  simp only [Lib.byteCells, List.map_cons, List.map_nil, Bool.false_eq_true, if_false]
  rw [hx]
theorem grow_i (B b : Nat) (n : Int) (w : World) (hB : B ≤ b) (hbk : w.heap[b]? = some (.cells #[.pointer none, .slice none 0 0] 39 (0, 0))) (hBw : B ≤ w.heap.size) (h0 : 0 ≤ n) (hn : n ≤ 281474976710656) :
    Calls Ybaf.prog 11 #[.pointer (some ⟨b, 0, none⟩), .int .i64 n] w fun e w' => e = .returned (.tuple #[]) ∧ (Lib.BuilderAt 39 5 B b (.pointer (some ⟨b, 0, none⟩)) [] w' ∧ Below B w w') := by
  obtain ⟨n, rfl⟩ := Int.eq_ofNat_of_zero_le h0
  exact Ybaf.Builder_Grow_fresh B b n w hB hbk hBw (by omega)

set_option maxRecDepth 100000 in
set_option maxHeartbeats 1000000 in
theorem escape_any (F : Interp) (s : ByteArray) (w : World) (hF : F.answers w.tape) (hs : s.size ≤ 1024) :
    Calls Ybaf.prog 9 #[.string s] w fun e w' => Below w.heap.size w w' ∧
      ((Esc.good s.data.toList = true ∧ e = .returned (.tuple #[.string ⟨(Esc.esc s.data.toList).toArray⟩, .nilIface])) ∨
       (Esc.good s.data.toList = false ∧ ∃ a, e = .returned (.tuple #[.string ⟨#[]⟩, .iface 47 (.pointer (some a))]))) := by
  have hF' : ∀ i name reading k range, w.tape i (.extern (word name reading k) range) = F name reading k := hF
  go_enter Ybaf.func9, Ybaf.ntmps9
  go_wp2
  go_loop [4, 5] (fun n i => ∃ k : Nat, k ≤ s.size ∧ i = .int .i64 k ∧ n = .int .i64 (Esc.caps (s.data.toList.take k)) ∧ Esc.good (s.data.toList.take k) = true) (fun _ i => s.size - (intOf i).toNat)
  case atStart => exact ⟨0, Nat.zero_le _, rfl, rfl, rfl⟩
  case round =>
    obtain ⟨k, hk, rfl, rfl, hg⟩ := hrel
    obtain ⟨m, hm⟩ : ∃ m, Esc.caps (s.data.toList.take k) = m := ⟨_, rfl⟩
    have hmk : m ≤ k := by rw [← hm]; exact Nat.le_trans (Esc.caps_le _) (List.length_take_le _ _)
    have HG : Hid (Esc.good (s.data.toList.take k) = true) := hg
    have HM : Hid (Esc.caps (s.data.toList.take k) = m) := hm
    rw [hm]
    clear hg hm
    by_cases hlt : k < s.size
    · have HT : Hid (s.data.toList.take (k + 1) = s.data.toList.take k ++ [s[k]]) := take_snoc s k hlt
      obtain ⟨c, hc⟩ : ∃ c : Int, (s[k].toNat : Int) = c := ⟨_, rfl⟩
      have hb : 0 ≤ c ∧ c < 256 := by rw [← hc]; have := s[k].toNat_lt; omega
      have HB : Hid (Esc.bad s[k] = decide (c = 33 ∨ c ≤ 32 ∨ 126 < c)) := by rw [← hc]; exact Esc.bad_iff _
      have HC : Hid (Esc.cap s[k] = decide (65 ≤ c ∧ c ≤ 90)) := by rw [← hc]; exact Esc.cap_iff _
      by_cases h1 : c = 33
      · have h1' : (c == 33) = true := by simp [h1]
        clear h1
        go_wp2
        go_ret2
        refine ⟨?_, .inr ⟨?_, _, rfl⟩⟩
        · repeat' (first | with_reducible exact Below.refl _ _ | with_reducible apply Below.drew | with_reducible apply Below.setCell | with_reducible apply Below.alloc | (first | omega | (simp; done) | (simp; omega)))
        · exact Esc.good_take (k := k + 1) (by rw [HT.out, Esc.good_snoc, HB.out]; have := beq_iff_eq.1 h1'; simp; intro _; omega)
      · have h1' : (c == 33) = false := by simp [h1]
        by_cases h2 : c ≤ 32 ∨ 126 < c
        · have fin : Esc.good s.data.toList = false := Esc.good_take (k := k + 1) (by rw [HT.out, Esc.good_snoc, HB.out]; simp; intro _; omega)
          have FIN : Hid (Esc.good s.data.toList = false) := fin
          clear fin h1
          by_cases h3 : c ≤ 32
          · clear h2
            go_wp2
            go_ret2
            refine ⟨?_, .inr ⟨FIN.out, _, rfl⟩⟩
            repeat' (first | with_reducible exact Below.refl _ _ | with_reducible apply Below.drew | with_reducible apply Below.setCell | with_reducible apply Below.alloc | (first | omega | (simp; done) | (simp; omega)))
          · have h4 : 126 < c := by omega
            clear h2
            go_wp2
            go_ret2
            refine ⟨?_, .inr ⟨FIN.out, _, rfl⟩⟩
            repeat' (first | with_reducible exact Below.refl _ _ | with_reducible apply Below.drew | with_reducible apply Below.setCell | with_reducible apply Below.alloc | (first | omega | (simp; done) | (simp; omega)))
        · have h5 : ¬ c ≤ 32 := by omega
          have h6 : ¬ 126 < c := by omega
          have hg1 : Esc.good (s.data.toList.take (k + 1)) = true := by rw [HT.out, Esc.good_snoc, HB.out, HG.out]; simp; omega
          have HG1 : Hid (Esc.good (s.data.toList.take (k + 1)) = true) := hg1
          clear hg1 h2 h1
          by_cases h7 : 65 ≤ c ∧ c ≤ 90
          · obtain ⟨h8, h9⟩ := h7
            have hm1 : Esc.caps (s.data.toList.take (k + 1)) = m + 1 := by rw [HT.out, Esc.caps_snoc, HC.out, HM.out]; simp [h8, h9]
            have HM1 : Hid (Esc.caps (s.data.toList.take (k + 1)) = m + 1) := hm1
            clear hm1
            go_wp2
            go_round
            case rel => exact ⟨k + 1, by omega, by go_num, by rw [HM1.out]; go_num, HG1.out⟩
            case measure => simp [intOf]; omega
          · have hm1 : Esc.caps (s.data.toList.take (k + 1)) = m := by
              rw [HT.out, Esc.caps_snoc, HC.out, HM.out]; rw [if_neg (by simpa using h7)]; rfl
            have HM1 : Hid (Esc.caps (s.data.toList.take (k + 1)) = m) := hm1
            clear hm1
            by_cases h8 : 65 ≤ c
            · have h9 : ¬ c ≤ 90 := by omega
              clear h7
              go_wp2
              go_round
              case rel => exact ⟨k + 1, by omega, by go_num, by rw [HM1.out], HG1.out⟩
              case measure => simp [intOf]; omega
            · clear h7
              go_wp2
              go_round
              case rel => exact ⟨k + 1, by omega, by go_num, by rw [HM1.out], HG1.out⟩
              case measure => simp [intOf]; omega
    · obtain rfl : k = s.size := by omega
      have et : s.data.toList.take s.size = s.data.toList := List.take_of_length_le (by simp)
      have hg : Esc.good s.data.toList = true := by rw [← et]; exact HG.out
      have hm : Esc.caps s.data.toList = m := by rw [← et]; exact HM.out
      clear HG HM
      by_cases h0 : m = 0
      · have h0' : ((m : Int) == 0) = true := by simp [h0]
        have he : Esc.esc s.data.toList = s.data.toList := Esc.esc_nocaps _ (by omega)
        have HE : Hid ((⟨(Esc.esc s.data.toList).toArray⟩ : ByteArray) = s) := by rw [he]; exact rfl
        have HG : Hid (Esc.good s.data.toList = true) := hg
        clear he hg hm et h0
        go_wp2
        go_ret2
        exact ⟨Below.refl _ _, .inl ⟨HG.out, by rw [HE.out]; rfl⟩⟩
      · have h0' : ((m : Int) == 0) = false := by simp [h0]
        have HG : Hid (Esc.good s.data.toList = true) := hg
        clear hg hm et h0
        go_wp2_with fail
        refine (grow_i w.heap.size w.heap.size _ _ (Nat.le_refl _) (heap_alloc_new _ _) (by simp) (by omega) (by omega)).mono ?_
        rintro e w1 ⟨rfl, hb1, hbel1⟩
        have hz1 : w.heap.size ≤ w1.heap.size := by have := hbel1.size; simp at this; omega
        have hbw1 : Below w.heap.size w w1 := ((Below.refl _ w).alloc (Nat.le_refl _) _).trans hbel1
        have HB1 : Hid (Lib.BuilderAt 39 5 w.heap.size w.heap.size (.pointer (some ⟨w.heap.size, 0, none⟩)) [] w1) := hb1
        have HBW1 : Hid (Below w.heap.size w w1) := hbw1
        clear hb1 hbel1 hbw1
        go_wp2
        go_loopw [8] (fun i wr => ∃ k : Nat, k ≤ s.size ∧ i = .int .i64 k ∧ Lib.BuilderAt 39 5 w.heap.size w.heap.size (.pointer (some ⟨w.heap.size, 0, none⟩)) (Lib.byteCells (Esc.esc (s.data.toList.take k))) wr ∧ Below w.heap.size w wr ∧ w.heap.size ≤ wr.heap.size) (fun i _ => s.size - (intOf i).toNat)
        case atStart => exact ⟨0, Nat.zero_le _, rfl, HB1.out, HBW1.out, hz1⟩
        case round =>
          clear HB1 HBW1
          obtain ⟨k, hk, rfl, hbu, hbw, hz⟩ := hrel
          have hlen : (Lib.byteCells (Esc.esc (s.data.toList.take k))).length ≤ 2048 := by
            rw [Lib.byteCells_length]
            have h1 := Esc.esc_len (s.data.toList.take k)
            have h2 : (s.data.toList.take k).length ≤ k := List.length_take_le _ _
            omega
          have HLEN : Hid ((Lib.byteCells (Esc.esc (s.data.toList.take k))).length ≤ 2048) := hlen
          have HBU : Hid (Lib.BuilderAt 39 5 w.heap.size w.heap.size (.pointer (some ⟨w.heap.size, 0, none⟩)) (Lib.byteCells (Esc.esc (s.data.toList.take k))) wr) := hbu
          have HBW : Hid (Below w.heap.size w wr) := hbw
          clear hbu hbw hlen
          by_cases hlt : k < s.size
          · have HT : Hid (s.data.toList.take (k + 1) = s.data.toList.take k ++ [s[k]]) := take_snoc s k hlt
            obtain ⟨c, hc⟩ : ∃ c : Int, (s[k].toNat : Int) = c := ⟨_, rfl⟩
            have hb : 0 ≤ c ∧ c < 256 := by rw [← hc]; have := s[k].toNat_lt; omega
            have HC : Hid (Esc.cap s[k] = decide (65 ≤ c ∧ c ≤ 90)) := by rw [← hc]; exact Esc.cap_iff _
            have HCC : Hid ((s[k].toNat : Int) = c) := hc
            by_cases h7 : 65 ≤ c ∧ c ≤ 90
            · obtain ⟨h8, h9⟩ := h7
              go_wp2_with fail
              refine (writeByte w.heap.size w.heap.size _ _ _ HBU.out (by have := HLEN.out; omega) hz).mono ?_
              rintro e w2 ⟨rfl, hb2, hbel2⟩
              have hz2 : w.heap.size ≤ w2.heap.size := Nat.le_trans hz hbel2.size
              go_wp2_with fail
              refine (writeByte w.heap.size w.heap.size _ _ _ hb2 (by have := HLEN.out; simp; omega) hz2).mono ?_
              rintro e w3 ⟨rfl, hb3, hbel3⟩
              have hz3 : w.heap.size ≤ w3.heap.size := Nat.le_trans hz2 hbel3.size
              have R : Hid (Lib.BuilderAt 39 5 w.heap.size w.heap.size (.pointer (some ⟨w.heap.size, 0, none⟩)) (Lib.byteCells (Esc.esc (s.data.toList.take (k + 1)))) w3) := by
                rw [HT.out, cells_cap _ _ c HCC.out h8 h9]; exact hb3
              have R2 : Hid (Below w.heap.size w w3) := (HBW.out.trans hbel2).trans hbel3
              clear hb2 hb3 hbel2 hbel3
              go_wp2
              go_roundw
              case rel => exact ⟨k + 1, by omega, by go_num, R.out, R2.out, hz3⟩
              case measure => simp [intOf]; omega
            · have HP := cells_plain (s.data.toList.take k) s[k] c HCC.out h7
              rw [← HT.out] at HP
              have HP' : Hid (Lib.byteCells (Esc.esc (s.data.toList.take (k + 1))) = Lib.byteCells (Esc.esc (s.data.toList.take k)) ++ [.int .u8 c]) := HP
              clear HP
              by_cases h8 : 65 ≤ c
              all_goals
                first | (have h9 : ¬ c ≤ 90 := by omega) | skip
                clear h7
                go_wp2_with fail
                refine (writeByte w.heap.size w.heap.size _ _ _ HBU.out (by have := HLEN.out; omega) hz).mono ?_
                rintro e w2 ⟨rfl, hb2, hbel2⟩
                have hz2 : w.heap.size ≤ w2.heap.size := Nat.le_trans hz hbel2.size
                have R : Hid (Lib.BuilderAt 39 5 w.heap.size w.heap.size (.pointer (some ⟨w.heap.size, 0, none⟩)) (Lib.byteCells (Esc.esc (s.data.toList.take (k + 1)))) w2) := by
                  rw [HP'.out]; exact hb2
                have R2 : Hid (Below w.heap.size w w2) := HBW.out.trans hbel2
                clear hb2 hbel2
                go_wp2
                go_roundw
                case rel => exact ⟨k + 1, by omega, by go_num, R.out, R2.out, hz2⟩
                case measure => simp [intOf]; omega
          · obtain rfl : k = s.size := by omega
            have et : s.data.toList.take s.size = s.data.toList := List.take_of_length_le (by simp)
            have hbu := HBU.out
            rw [et] at hbu
            have HBU2 : Hid (Lib.BuilderAt 39 5 w.heap.size w.heap.size (.pointer (some ⟨w.heap.size, 0, none⟩)) (Lib.byteCells (Esc.esc s.data.toList)) wr) := hbu
            clear hbu et HBU HLEN
            go_wp2_with (go_at_call 13; refine (Ybaf.Builder_String_any w.heap.size w.heap.size (Esc.esc s.data.toList) _ (.inr HBU2.out) hz).mono ?_; rintro e w4 ⟨rfl, hbel4⟩)
            go_ret2
            exact ⟨HBW.out.trans hbel4, .inl ⟨HG.out, rfl⟩⟩
end Go.Proofs.YbulkcmxuFmt
