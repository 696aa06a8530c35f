import Derived.Test.YbulkcmvcRefA
import Derived.WalkKit
import Derived.WalkSpells
import Derived.BigRegion
import Derived.BigQuiet
import Derived.Deep.QuietTactic
import Derived.Deep.RegionWith
import Derived.Laws.AppendOwn
import Derived.WalkLawsBesides
import Derived.Handy
namespace Go.Proofs.Ybulkcmvc
open Go.RowKit
/-- the row of the successors. -/
def srow (s : Nat) (E : List Nat) : List Value := flat (E.map fun d => (some ((s + d) % 256), 0))
theorem srow_snoc (s : Nat) (E : List Nat) (d : Nat) : srow s (E ++ [d]) = srow s E ++ pcells (some ((s + d) % 256)) := by simp [srow, flat]
theorem srow_len (s : Nat) (E : List Nat) : (srow s E).length = E.length * 6 := by unfold srow; rw [flat_len]; simp
theorem own_shape {w : World} {base : Nat} {e : TypeId} {size : Nat} {v : Value} {n : Nat} {xs : List Value} (h : w.ownsRow base e size v n xs) : ∃ a c, v = .slice a n c := by
  obtain ⟨_, h | ⟨g, cap, cur, h, _⟩⟩ := h
  · obtain ⟨rfl, rfl⟩ := h
    exact ⟨_, _, rfl⟩
  · exact ⟨_, _, h⟩
theorem own_ge {w : World} {base : Nat} {e : TypeId} {size : Nat} {v : Value} {n : Nat} {xs : List Value} (h : w.ownsRow base e size v n xs) {g : Nat} (hg : v.ownBlock = some g) : base ≤ g := by
  obtain ⟨_, h | ⟨g', cap, cur, h, hb, _⟩⟩ := h
  · obtain ⟨rfl, rfl⟩ := h
    simp [Value.ownBlock] at hg
  · subst h
    have : g' = g := by simpa [Value.ownBlock] using hg
    omega
theorem ds_le (h : Has) (s D : Nat) : (ds h s D).length ≤ D := by
  have h1 := List.length_filter_le (fun d => h ((s + d) % 256)) (List.range' 1 D)
  simp only [List.length_range'] at h1
  exact h1
def SP (w : World) (s : Nat) (h : Has) (e : Ending) (w' : World) : Prop := (∃ D v, D ≤ 255 ∧ e = .returned v ∧ w'.ownsRow w.heap.size 38 6 v (ds h s D).length (srow s (ds h s D))) ∧ Below w.heap.size w w'
def OwnS (w : World) (s : Nat) (h : Has) (D : Nat) (v : Value) (wr : World) : Prop := wr.ownsRow w.heap.size 38 6 v (ds h s D).length (srow s (ds h s D)) ∧ Below w.heap.size w wr
set_option maxRecDepth 100000 in
set_option maxHeartbeats 4000000 in
theorem bsuccs_walk (H s ns : Nat) (h : Has) (hs : s < 256) (hns : ns < 256) (w : World) (hc : ∀ k, k < 256 → w.cell? ⟨H, k, none⟩ = some (.bool (h k))) (hH : H < w.heap.size) :
    Calls Yba.prog 10 #[.pointer (some ⟨H, 0, none⟩), .int .u8 s, .int .u8 ns] w fun e w' => SP w s h e w' := by
  have HC : Hid (∀ k, k < 256 → w.cell? ⟨H, k, none⟩ = some (.bool (h k))) := hc
  clear hc
  go_enter Yba.func10, Yba.ntmps10
  go_wp2
  go_loop [7, 8] (fun vn vv => ∃ n v : Nat, n ≤ v ∧ v ≤ 256 ∧ vn = .int .i64 n ∧ vv = .int .i64 v) (fun _ vv => 256 - (intOf vv).toNat)
  case atStart => exact ⟨0, 0, by omega, by omega, rfl, rfl⟩
  case round =>
    obtain ⟨n, v, hn, hv, rfl, rfl⟩ := hrel
    by_cases hv2 : v < 256
    · have q1 : (v : Int) < 256 := by omega
      have c1 := HC.out v hv2
      obtain ⟨b, hb⟩ : ∃ b, h v = b := ⟨_, rfl⟩
      rw [hb] at c1
      have e1 : IntKind.u8.wrap ((v : Int)) = v := by rw [IntKind.wrap_u8]; omega
      have e2 : wrap64 ((n : Int) + 1) = (n : Int) + 1 := by unfold wrap64; omega
      cases b
      · go_wp2
        exact ⟨⟨n, v + 1, by omega, by omega, rfl, by go_num⟩, by simp [intOf]; omega⟩
      · by_cases hvs : v = s
        · subst hvs
          go_wp2
          exact ⟨⟨n, v + 1, by omega, by omega, rfl, by go_num⟩, by simp [intOf]; omega⟩
        · have n1 : ((v : Int) == (s : Int)) = false := by simp; omega
          have n2 : ¬ ((v : Int) = (s : Int)) := by omega
          go_wp2
          exact ⟨⟨n + 1, v + 1, by omega, by omega, by go_num, by go_num⟩, by simp [intOf]; omega⟩
    · obtain rfl : v = 256 := by omega
      have e2 : wrap64 ((n : Int) + 1) = (n : Int) + 1 := by unfold wrap64; omega
      have n0 : ¬ ((n : Int) + 1 = 0) := by omega
      obtain ⟨kk, hkk⟩ : ∃ kk, Int.tmod (ns : Int) ((n : Int) + 1) = kk := ⟨_, rfl⟩
      clear n0 e2
      go_wp2
      clear hkk
      go_loopw [10, 11] (fun vo vd wr => ∃ D : Nat, D ≤ 255 ∧ vd = .int .i64 ((D : Int) + 1) ∧ OwnS w s h D vo wr) (fun _ vd _ => 257 - (intOf vd).toNat)
      case atStart => exact ⟨0, by omega, rfl, ⟨by simp [srow, ds, flat], .inl ⟨rfl, rfl⟩⟩, Below.refl _ _⟩
      case round =>
        obtain ⟨D, hD, rfl, hown, hbel⟩ := hrel
        obtain ⟨a, c, rfl⟩ := own_shape hown
        obtain ⟨len, hlen⟩ : ∃ len, (ds h s D).length = len := ⟨_, rfl⟩
        have hl255 : len ≤ D := by rw [← hlen]; exact ds_le h s D
        rw [hlen] at hown ⊢
        have HO : Hid (wr.ownsRow w.heap.size 38 6 (.slice a len c) len (srow s (ds h s D))) := hown
        have HB : Hid (Below w.heap.size w wr) := hbel
        have HLN : Hid ((ds h s D).length = len) := hlen
        clear hown hbel hlen
        have fin : Hid (SP w s h (.returned (.slice a len c)) wr) := by
          exact ⟨⟨D, _, hD, rfl, by rw [HLN.out]; exact HO.out⟩, HB.out⟩
        by_cases hD2 : D = 255
        · subst hD2
          go_wp2
          go_ret
          exact fin.out
        · have q1 : (D : Int) + 1 < 256 := by omega
          by_cases hlk : (len : Int) < kk
          · have q2 : decide ((len : Int) < kk) = true := decide_eq_true hlk
            obtain ⟨v, hv⟩ : ∃ v : Nat, (s + (D + 1)) % 256 = v := ⟨_, rfl⟩
            have hv2 : v < 256 := by omega
            have qv : (v : Int) < 256 := by omega
            have c1 : wr.cell? ⟨H, v, none⟩ = some (.bool (h v)) := (HB.out.cell (p := ⟨H, v, none⟩) hH).trans (HC.out v hv2)
            obtain ⟨b, hb⟩ : ∃ b, h v = b := ⟨_, rfl⟩
            rw [hb] at c1
            have e1 : IntKind.u8.wrap ((D : Int) + 1) = (D : Int) + 1 := by rw [IntKind.wrap_u8]; omega
            have e2 : IntKind.u8.wrap ((s : Int) + ((D : Int) + 1)) = v := by rw [IntKind.wrap_u8]; omega
            have hds := ds_succ h s D
            rw [hv, hb] at hds
            have HDS : Hid _ := hds
            clear hds
            cases b
            · go_wp2
              have hds : ds h s (D + 1) = ds h s D := by rw [HDS.out]; simp
              exact ⟨⟨D + 1, by omega, by simp, ⟨by rw [hds, HLN.out]; exact HO.out, HB.out⟩⟩, by simp [intOf]; omega⟩
            · have hds : ds h s (D + 1) = ds h s D ++ [D + 1] := by rw [HDS.out]; simp
              have HD2 : Hid (ds h s (D + 1) = ds h s D ++ [D + 1]) := hds
              have HV : Hid ((s + (D + 1)) % 256 = v) := hv
              clear hds hv
              go_wp2_with fail
              refine (bpeer_walk v _ (by omega) (by omega)).mono ?_
              rintro e w1 ⟨rfl, hb1⟩
              obtain ⟨i0, hi, hz0, hz1, hz2⟩ := info_parts info38
              have hbs : w.heap.size ≤ w1.heap.size := by have := hb1.size; have := HB.out.size; omega
              have k1 : Kept (fun _ => False) wr (w1.alloc (.cells #[.int .u64 0, .int .u64 0, .int .u64 v, .int .u8 8, .string ⟨#[]⟩, .string ⟨#[]⟩] 38)) := (Kept.of_below (M := fun _ => False) hb1).alloc _
              have HOX : Hid ((w1.alloc (.cells #[.int .u64 0, .int .u64 0, .int .u64 v, .int .u8 8, .string ⟨#[]⟩, .string ⟨#[]⟩] 38)).ownsRow w.heap.size 38 6 (.slice a len c) len (srow s (ds h s D))) := own_kept HO.out k1 (fun _ _ x => x)
              have HBX : Hid (Below w.heap.size w (w1.alloc (.cells #[.int .u64 0, .int .u64 0, .int .u64 v, .int .u8 8, .string ⟨#[]⟩, .string ⟨#[]⟩] 38))) := (HB.out.trans (hb1.mono HB.out.size)).alloc hbs _
              have hnews : ∀ j u, (pcells (some v))[j]? = some u → (w1.alloc (.cells #[.int .u64 0, .int .u64 0, .int .u64 v, .int .u8 8, .string ⟨#[]⟩, .string ⟨#[]⟩] 38)).cell? ((⟨w1.heap.size, 0, none⟩ : Addr).add j) = some u := by
                intro j u hj
                have P := peer_alloc w1 v 8 38
                have hj6 : j < 6 := by
                  rcases Nat.lt_or_ge j 6 with q | q
                  · exact q
                  · rw [List.getElem?_eq_none (by simpa [pcells] using q)] at hj; cases hj
                have : j = 0 ∨ j = 1 ∨ j = 2 ∨ j = 3 ∨ j = 4 ∨ j = 5 := by omega
                rcases this with rfl | rfl | rfl | rfl | rfl | rfl
                · exact P.c0.trans hj
                · exact P.c1.trans hj
                · exact P.c2.trans hj
                · exact P.c3.trans hj
                · exact P.c4.trans hj
                · exact P.c5.trans hj
              have HNW : Hid _ := hnews
              clear hb1 k1 hnews
              go_wp2_with (at_builtin; refine wpList_append_own _ rfl _ _ 32 rfl w.heap.size 38 i0 zeroPeer 6 64 Yba.underlying32 hi hz0 hz1 hz2 rfl (by decide) _ _ _ rfl HOX.out ⟨w1.heap.size, 0, none⟩ 1 1 (pcells (some v)) rfl rfl HNW.out (pcells_one _) ?c1 ?c2 ?c3 ?_)
              case c1 => unfold maxLen; omega
              case c2 => omega
              case c3 => simp; omega
              intro v' w2 hown' hgrow _
              have HO2 : Hid (w2.ownsRow w.heap.size 38 6 v' (len + 1) (srow s (ds h s D) ++ pcells (some v))) := hown'
              have HB2 : Hid (Below w.heap.size w w2) := HBX.out.grown hgrow HBX.out.size (fun g hg => own_ge HOX.out hg)
              clear hown' hgrow
              go_wp2
              refine ⟨⟨D + 1, by omega, by simp, ⟨?_, HB2.out⟩⟩, by simp [intOf]; omega⟩
              rw [HD2.out, srow_snoc, HV.out, List.length_append, HLN.out]
              exact HO2.out
          · have q2 : decide ((len : Int) < kk) = false := decide_eq_false hlk
            go_wp2
            go_ret
            exact fin.out
end Go.Proofs.Ybulkcmvc
