/-
  LawS4438BRecords, walked.
-/
import Derived.Test.YbulkcmwsGreatListen
import Derived.WalkKit
import Derived.WalkSpells
import Derived.WalkLawsBesides
import Derived.LaidEqlPtr
import Derived.Deep.DeepCutAuto
import Derived.BigQuiet
import Derived.Deep.QuietTactic
namespace Go.Proofs.YbulkcmwsGreat
open Go.RowKit Go.MuLone

def ptrV (b : Nat) : Value := .pointer (some ⟨b, 0, none⟩)
def ifV (b : Nat) : Value := .iface 38 (.pointer (some ⟨b, 0, none⟩))

/-! ### equality at this dump -/
theorem inf (t : TypeId) (h : (Ybaz.prog.info? t).isSome = true) : ∃ j, Ybaz.prog.info? t = some j := Option.isSome_iff_exists.1 h
theorem i38 : (Ybaz.prog.info? 38).map (·.comparable) = some true := by kernel_rfl
theorem i44 : (Ybaz.prog.info? 44).map (·.size) = some 2 := by kernel_rfl
theorem i36 : (Ybaz.prog.info? 36).map (·.size) = some 8 := by kernel_rfl
theorem neq40_same (a : Addr) (w : World) : (binOp .neq 40 (.iface 38 (.pointer (some a))) (.iface 38 (.pointer (some a)))).run Ybaz.prog w = .ok (.bool false) w := by
  obtain ⟨i, hi, hc⟩ := Option.map_eq_some_iff.1 i38
  obtain ⟨j, hj, _⟩ := Option.map_eq_some_iff.1 i44
  simp only [binOp]
  simp [Op.equal, Op.maxDepth, run_equalIn_iface_ptr_same w 9998 a Ybaz.underlying40 Ybaz.underlying38 hi hc hj]
theorem neq23_same (a : Addr) (w : World) : (binOp .neq 23 (.pointer (some a)) (.pointer (some a))).run Ybaz.prog w = .ok (.bool false) w := by
  obtain ⟨j, hj, _⟩ := Option.map_eq_some_iff.1 i36
  have h : ∀ d : Nat, (Op.equalIn (d + 1) 23 (.pointer (some a)) (.pointer (some a))).run Ybaz.prog w = .ok true w := fun d => by
    simp [Op.equalIn, run_underlying Ybaz.underlying23, sizeOf, typeInfo, hj, run_sameAddr_same]
  simp only [binOp]
  simp [Op.equal, Op.maxDepth, h 9999]
theorem eql38_other {a b : Nat} {ca cb : Array Value} {ta tb : TypeId} (w : World) (hne : a ≠ b) (ha : w.heap[a]? = some (.cells ca ta (0, 0))) (hb : w.heap[b]? = some (.cells cb tb (0, 0))) :
    (binOp .eql 38 (.pointer (some ⟨a, 0, none⟩)) (.pointer (some ⟨b, 0, none⟩))).run Ybaz.prog w = .ok (.bool false) w := by
  obtain ⟨j, hj, hs⟩ := Option.map_eq_some_iff.1 i44
  exact run_eql_ptr_other w Ybaz.underlying38 hj (by omega) (fun h => hne (congrArg Addr.block h)) ha hb
theorem build36 (p : Int) (c : Bool) (w : World) : (Instr.build 36 #[(4, .int .i64 p), (3, .bool c)]).run Ybaz.prog w = .ok (.agg #[.pointer none, .int .i32 0, .int .u32 0, .slice none 0 0, .bool c, .int .i64 p, .map none, .chan none]) w := run_build w 36 _ _ (by kernel_rfl)

theorem own_shape {w : World} {base : Nat} {e : TypeId} {size : Nat} {v : Value} {n : Nat} {xs : List Value} (h : w.ownsRow base e size v n xs) : ∃ a cap, v = .slice a n cap := by
  rcases h.2 with ⟨rfl, h0⟩ | ⟨g, cap, cur, rfl, _⟩
  · subst h0; exact ⟨none, 0, rfl⟩
  · exact ⟨_, cap, rfl⟩
theorem new0 {w : World} {b D : Nat} {l : Value} (h : w.heap[b]? = some (.cells #[l, .pointer (some ⟨D, 0, none⟩)] 44 (0, 0))) : w.cell? ⟨b, 0, none⟩ = some l := by simp [World.cell?, h]
theorem new1 {w : World} {b D : Nat} {l : Value} (h : w.heap[b]? = some (.cells #[l, .pointer (some ⟨D, 0, none⟩)] 44 (0, 0))) : w.cell? ⟨b, 1, none⟩ = some (.pointer (some ⟨D, 0, none⟩)) := by simp [World.cell?, h]
theorem assert38 (a : Addr) (w : World) : (Instr.typeAssert (.iface 38 (.pointer (some a))) 40 38 true).run Ybaz.prog w = .ok (.tuple #[.pointer (some a), .bool true]) w := by kernel_rfl
theorem own_cell {w : World} {base : Nat} {e : TypeId} {a : Option Addr} {n cap : Nat} {xs : List Value} (h : w.ownsRow base e 1 (.slice a n cap) n xs) {k : Nat} (hk : k < n) : ∃ g, a = some ⟨g, 0, none⟩ ∧ w.cell? ⟨g, k, none⟩ = xs[k]? := by
  rcases h.2 with ⟨_, h0⟩ | ⟨g, cap', cur, hv, _⟩
  · omega
  · simp at hv
    obtain ⟨rfl, rfl⟩ := hv
    exact ⟨g, rfl, h.cellAt k (by omega)⟩
theorem eqmap (w : World) : (binOp .eql 33 (.map none) (.map none)).run Ybaz.prog w = .ok (.bool true) w := by kernel_rfl
theorem eqchan (w : World) : (binOp .eql 34 (.chan none) (.chan none)).run Ybaz.prog w = .ok (.bool true) w := by kernel_rfl
theorem eqptr (w : World) : (binOp .eql 24 (.pointer none) (.pointer none)).run Ybaz.prog w = .ok (.bool true) w := by kernel_rfl
theorem below_dn' {B n : Nat} {a w : World} (h : Below B a w) : Below B a (w.drewN n) := ⟨h.os, h.tape, h.output, h.size, h.block⟩
/-- the loop's state. -/
structure St (D : Nat) (w wr : World) (c : Bool) (p : Int) (i : Nat) (gv lv : Value) (ps : List Nat) : Prop where
  below : Below D w wr
  d : wr.heap[D]? = some (dobj lv c p)
  got : wr.ownsRow (D + 1) 38 1 gv i (ps.map ptrV)
  lis : wr.ownsRow (D + 1) 40 1 lv i (ps.map ifV)
  each : ∀ b, b ∈ ps → ∃ x, wr.heap[b]? = some (.cells #[x, .pointer (some ⟨D, 0, none⟩)] 44 (0, 0))
  nil : i = 0 → gv = .slice none 0 0 ∧ lv = .slice none 0 0

theorem St.len {D : Nat} {w wr : World} {c : Bool} {p : Int} {i : Nat} {gv lv : Value} {ps : List Nat} (h : St D w wr c p i gv lv ps) : ps.length = i := by
  have := h.got.1; simpa using this

/-- a row that is owned and a block of another kind are two. -/
theorem own_ne {w : World} {base : Nat} {e : TypeId} {v : Value} {n : Nat} {xs : List Value} (h : w.ownsRow base e 1 v n xs) {b : Nat} {cs : Array Value} {t : TypeId} (hb : w.heap[b]? = some (.cells cs t (0, 0))) (hne : t ≠ e) : v.ownBlock ≠ some b := by
  intro he
  rcases h.2 with ⟨rfl, _⟩ | ⟨g, cap, cur, rfl, _, hg, _⟩
  · simp [Value.ownBlock] at he
  · simp [Value.ownBlock] at he
    subst he
    rw [hg] at hb
    simp at hb
    exact hne hb.2.symm
theorem own_two {w : World} {base : Nat} {e e' : TypeId} {v v' : Value} {n n' : Nat} {xs xs' : List Value} (h : w.ownsRow base e 1 v n xs) (h' : w.ownsRow base e' 1 v' n' xs') (hne : e ≠ e') : v.ownBlock = none ∨ v.ownBlock ≠ v'.ownBlock := by
  rcases h.2 with ⟨rfl, _⟩ | ⟨g, cap, cur, rfl, _, hg, _⟩
  · left; rfl
  · right
    intro he
    exact own_ne h' hg hne he.symm

/-- behind a call of Listener. -/
structure Mid (D : Nat) (w wc : World) (c : Bool) (p : Int) (i nb : Nat) (gv lv : Value) (ps : List Nat) : Prop where
  below : Below D w wc
  d : wc.heap[D]? = some (dobj lv c p)
  got : wc.ownsRow (D + 1) 38 1 gv i (ps.map ptrV)
  lis : wc.ownsRow (D + 1) 40 1 lv (i + 1) ((ps ++ [nb]).map ifV)
  each : ∀ b, b ∈ ps ++ [nb] → ∃ x, wc.heap[b]? = some (.cells #[x, .pointer (some ⟨D, 0, none⟩)] 44 (0, 0))
  fresh : ∀ b, b ∈ ps → b ≠ nb

theorem St.mid {D : Nat} {w wr wc : World} {c : Bool} {p : Int} {i : Nat} {gv lv l : Value} {ps : List Nat} (h : St D w wr c p i gv lv ps) (a : After D lv l c p i (ps.map ifV) wr wc) :
    ∃ lv', Mid D w wc c p i wr.heap.size gv lv' ps := by
  obtain ⟨lv', hd, hl⟩ := a.d
  have hDlt : D < wr.heap.size := lt_of_block h.d
  have hblk : ∀ (b : Nat) (cs : Array Value) (t : TypeId), wr.heap[b]? = some (.cells cs t (0, 0)) → b ≠ D → t ≠ 40 → wc.heap[b]? = wr.heap[b]? := fun b cs t hb hbD ht =>
    a.block b (lt_of_block hb) hbD (fun e => own_ne h.lis hb ht e.symm)
  refine ⟨lv', ⟨h.below.trans ⟨a.os, a.tape, a.output, Nat.le_of_lt a.size, fun k hk => ?_⟩, hd, ?_, ?_, ?_, ?_⟩⟩
  · exact a.block k (by omega) (by omega) (fun e => by have := (h.lis.lt k e.symm).1; omega)
  · refine ⟨h.got.1, ?_⟩
    rcases h.got.2 with hn | ⟨g, cap, cur, rfl, hb, hgg, rest⟩
    · exact .inl hn
    · refine .inr ⟨g, cap, cur, rfl, hb, ?_, rest⟩
      rw [hblk g cur 38 hgg (by omega) (by decide)]
      exact hgg
  · rw [List.map_append]; exact hl
  · intro b hb
    rcases List.mem_append.1 hb with hb | hb
    · obtain ⟨x, hx⟩ := h.each b hb
      refine ⟨x, ?_⟩
      by_cases e : b = D
      · subst e; rw [h.d] at hx; simp [dobj] at hx
      · rw [hblk b _ 44 hx e (by decide)]; exact hx
    · simp at hb; subst hb
      exact ⟨l, a.new⟩
  · intro b hb
    obtain ⟨x, hx⟩ := h.each b hb
    have := lt_of_block hx
    omega

theorem Mid.next {D : Nat} {w wc w2 : World} {c : Bool} {p : Int} {i nb : Nat} {gv gv' lv : Value} {ps : List Nat} {o : Obj} (h : Mid D w wc c p i nb gv lv ps)
    (hown : w2.ownsRow (D + 1) 38 1 gv' (i + 1) (ps.map ptrV ++ [.pointer (some ⟨nb, 0, none⟩)])) (hg : (wc.alloc o).grownBy w2 gv.ownBlock) :
    w2.heap[D]? = some (dobj lv c p) ∧ St D w ((w2.setCell ⟨D, 1, none⟩ (.int .i32 1)).setCell ⟨D, 1, none⟩ (.int .i32 0)) c p (i + 1) gv' lv (ps ++ [nb]) := by
  have hDlt : D < wc.heap.size := lt_of_block h.d
  have hblk : ∀ (b : Nat) (cs : Array Value) (t : TypeId), wc.heap[b]? = some (.cells cs t (0, 0)) → t ≠ 38 → w2.heap[b]? = wc.heap[b]? := fun b cs t hb ht => by
    have hlt := lt_of_block hb
    rw [hg.block b (by simp; omega) (fun e => own_ne h.got hb ht e.symm), Below.heap_alloc _ _ _ hlt]
  have hd2 : w2.heap[D]? = some (dobj lv c p) := by rw [hblk D _ 36 h.d (by decide)]; exact h.d
  have hl2 : w2.ownsRow (D + 1) 40 1 lv (i + 1) ((ps ++ [nb]).map ifV) := by
    refine ⟨h.lis.1, ?_⟩
    rcases h.lis.2 with hn | ⟨g, cap, cur, rfl, hb, hgg, rest⟩
    · exact .inl hn
    · refine .inr ⟨g, cap, cur, rfl, hb, ?_, rest⟩
      rw [hblk g cur 40 hgg (by decide)]
      exact hgg
  have ng : gv'.ownBlock ≠ some D := own_ne hown hd2 (by decide)
  have nl : lv.ownBlock ≠ some D := own_ne hl2 hd2 (by decide)
  have gb : ∀ k, gv.ownBlock = some k → D ≤ k := fun k hk => by have := (h.got.lt k hk).1; omega
  refine ⟨hd2, ⟨?_, ?_, ?_, ?_, ?_, fun e => by omega⟩⟩
  · exact (((h.below.alloc (Nat.le_of_lt hDlt) _).grown hg (by simp; omega) gb).setCell (Nat.le_refl _) _).setCell (Nat.le_refl _) _
  · rw [heap_set (heap_set hd2)]; rfl
  · rw [List.map_append]; exact ownsRow_setCell_other (ownsRow_setCell_other hown ng _) ng _
  · exact ownsRow_setCell_other (ownsRow_setCell_other hl2 nl _) nl _
  · intro b hb
    obtain ⟨x, hx⟩ := h.each b hb
    have e : b ≠ D := by rintro rfl; rw [h.d] at hx; simp [dobj] at hx
    exact ⟨x, by rw [heap_set_other e, heap_set_other e, hblk b _ 44 hx (by decide)]; exact hx⟩

set_option maxRecDepth 100000 in
set_option maxHeartbeats 1000000 in
theorem law_walk (ao : Option Addr) (b0 off0 len0 cap0 : Nat) (z0 : List Int) (a1 : Int) (a2 : Bool) (w : World) (hlen : len0 ≤ 1024) (hao : 0 < len0 → ao = some ⟨b0, off0, none⟩)
    (hops : ∀ k, k < len0 → w.cell? ⟨b0, off0 + k, none⟩ = some (.int .u8 (z0.getD k 0))) (hwf : ∀ k, 0 ≤ z0.getD k 0 ∧ z0.getD k 0 < 256) (hb0 : 0 < len0 → b0 < w.heap.size) :
    Calls Ybaz.prog 3 #[.slice ao len0 cap0, .int .i64 a1, .bool a2] w fun e w' => e = .returned (.bool true) ∧ Below w.heap.size w w' := by
  have hl1 : ¬ (1024 : Int) < (len0 : Int) := by omega
  have hb36 := build36 a1 a2
  go_enter Ybaz.func3, Ybaz.ntmps3
  go_wp2
  go_loopw [28, 8] (fun vi gv wr => ∃ (i : Nat) (lv : Value) (ps : List Nat), i ≤ len0 ∧ vi = .int .i64 i ∧ St w.heap.size w wr a2 a1 i gv lv ps) (fun vi _ _ => len0 - (intOf vi).toNat)
  case atStart =>
    refine ⟨0, .slice none 0 0, [], by omega, rfl, ?_⟩
    exact ⟨(Below.refl _ _).alloc (Nat.le_refl _) _, heap_alloc_new _ _, World.ownsRow_nil _ _ _ _, World.ownsRow_nil _ _ _ _, (fun b hb => by cases hb), fun _ => ⟨rfl, rfl⟩⟩
  case round =>
    obtain ⟨i, lv, ps, hi, rfl, hst⟩ := hrel
    by_cases hil : i < len0
    · have hao' := hao (by omega)
      subst hao'
      have hop : wr.cell? ⟨b0, off0 + i, none⟩ = some (.int .u8 (z0.getD i 0)) := (hst.below.cell (by exact hb0 (by omega))).trans (hops i hil)
      obtain ⟨z, hz⟩ : ∃ z, z0.getD i 0 = z := ⟨_, rfl⟩
      have hzb := hwf i
      rw [hz] at hop hzb
      obtain ⟨ga, gc, rfl⟩ := own_shape hst.got
      have hr0 : (0 : Int) ≤ z % ((i : Int) + 1) := Int.emod_nonneg _ (by omega)
      have hr1 : z % ((i : Int) + 1) < (i : Int) + 1 := Int.emod_lt_of_pos _ (by omega)
      obtain ⟨r, hr⟩ := Int.eq_ofNat_of_zero_le hr0
      have hri : r ≤ i := by omega
      clear hr0 hr1
      go_upto_if 39 with fail
      go_cut [11, 12] (fun _ s12 wz => s12 = .pointer (some ⟨wr.heap.size, 0, none⟩) ∧ ∃ l, After w.heap.size lv l a2 a1 i (ps.map ifV) wr wz)
      case first =>
        have n5 := neq40_same
        have n6 := assert38
        by_cases hj : r = 0
        · have hjb : ((r : Int) == 0) = true := by simp [hj]
          clear hj
          go_wp2_with (go_at_call 4; refine (listener_walk w.heap.size lv .nilIface a2 a1 i (ps.map ifV) _ hst.d hst.lis (by omega) (.inl rfl)).mono ?_; rintro e w1 ⟨rfl, ha⟩; have m0 := new0 ha.new; have m1 := new1 ha.new; have HA : Hid (After w.heap.size lv .nilIface a2 a1 i (ps.map ifV) wr w1) := ha; clear ha)
          go_meet
          case rel => exact ⟨rfl, _, HA.out⟩
        · have hjb : ((r : Int) == 0) = false := by simp [hj]
          obtain ⟨g, hga, hcell⟩ := own_cell hst.got (show r - 1 < i by omega)
          subst hga
          obtain ⟨b, hb⟩ : ∃ b, (ps.map ptrV)[r - 1]? = some (.pointer (some ⟨b, 0, none⟩)) := by
            have : r - 1 < ps.length := by rw [hst.len]; omega
            exact ⟨ps[r - 1], by rw [List.getElem?_map, List.getElem?_eq_getElem this]; rfl⟩
          rw [hb] at hcell
          clear hb
          have q1 : (0 : Int) ≤ (r : Int) - 1 := by omega
          have q2 : (r : Int) - 1 < (i : Int) := by omega
          clear hj
          go_wp2_with (go_at_call 4; refine (listener_walk w.heap.size lv (.iface 38 (.pointer (some ⟨b, 0, none⟩))) a2 a1 i (ps.map ifV) _ hst.d hst.lis (by omega) (.inr ⟨_, rfl⟩)).mono ?_; rintro e w1 ⟨rfl, ha⟩; have m0 := new0 ha.new; have m1 := new1 ha.new; have HA : Hid (After w.heap.size lv (.iface 38 (.pointer (some ⟨b, 0, none⟩))) a2 a1 i (ps.map ifV) wr w1) := ha; clear ha)
          go_meet
          case rel => exact ⟨rfl, _, HA.out⟩
      case rest =>
        obtain ⟨rfl, l, ha⟩ := hcut
        obtain ⟨lv', hm⟩ := hst.mid ha
        obtain ⟨nb, hnb⟩ : ∃ nb, wr.heap.size = nb := ⟨_, rfl⟩
        rw [hnb] at hm ⊢
        obtain ⟨g', c', rfl⟩ := own_some hm.lis
        obtain ⟨x1, hx1⟩ := hm.each nb (by simp)
        have m1 := new1 hx1
        have d3 : wc.cell? ⟨w.heap.size, 3, none⟩ = some (.slice (some ⟨g', 0, none⟩) (i + 1) c') := by rw [cell_d hm.d]; rfl
        have dl : wc.cell? ⟨g', i, none⟩ = some (.iface 38 (.pointer (some ⟨nb, 0, none⟩))) := by
          rw [hm.lis.cellAt i (by omega), List.getElem?_map, List.getElem?_append_right (by rw [hst.len]; omega), hst.len]; simp [ifV]
        have n5 := neq40_same
        have n7 := neq23_same
        have HST : Hid (St w.heap.size w wr a2 a1 i (.slice ga i gc) lv ps) := hst
        have HM : Hid (Mid w.heap.size w wc a2 a1 i nb (.slice ga i gc) (.slice (some ⟨g', 0, none⟩) (i + 1) c') ps) := hm
        clear hst hm ha hop hzb hx1 hr hnb
        go_wp2
        go_loop [17] (fun vk => ∃ k : Nat, k ≤ i ∧ vk = .int .i64 k) (fun vk => i - (intOf vk).toNat)
        case atStart => exact ⟨0, by omega, rfl⟩
        case round =>
          obtain ⟨k, hk, rfl⟩ := hrel
          by_cases hki : k < i
          · obtain ⟨g, hga, hcell⟩ := own_cell HM.out.got hki
            subst hga
            have hkp : k < ps.length := by rw [HST.out.len]; omega
            obtain ⟨b, hb⟩ : ∃ b, ps[k] = b := ⟨_, rfl⟩
            have hbm : b ∈ ps := by rw [← hb]; exact List.getElem_mem hkp
            rw [List.getElem?_map, List.getElem?_eq_getElem hkp, hb] at hcell
            simp only [Option.map_some, ptrV] at hcell
            obtain ⟨xb, hxb⟩ := HM.out.each b (by simp [hbm])
            obtain ⟨xn, hxn⟩ := HM.out.each nb (by simp)
            have he := eql38_other wc (HM.out.fresh b hbm) hxb hxn
            have q1 : (k : Int) < (i : Int) := by omega
            clear hb hxb hxn hbm
            go_wp2
            go_round
            case rel => exact ⟨k + 1, by omega, by go_num⟩
            case measure => simp [intOf]; omega
          · obtain rfl : k = i := by omega
            obtain ⟨i0, hi0, hz0, hz1, hz2⟩ := info_parts info38
            go_wp2_with (at_builtin; refine wpList_append_own _ rfl _ _ 37 rfl (w.heap.size + 1) 38 i0 (.pointer none) 1 8 Ybaz.underlying37 hi0 hz0 hz1 hz2 rfl (by decide) _ _ _ rfl (HM.out.got.alloc _) ⟨wc.heap.size, 0, none⟩ 1 1 [.pointer (some ⟨nb, 0, none⟩)] rfl rfl ?e1 ?e2 ?e3 ?e4 ?e5 ?_)
            case e2 => rfl
            case e3 => unfold maxLen; omega
            case e4 => omega
            case e5 => have := lt_of_block HM.out.d; simp; omega
            intro gv' w2 hown' hgrow _
            obtain ⟨g2, c2, hv'⟩ := own_some hown'
            subst hv'
            obtain ⟨hd2, hst2⟩ := HM.out.next hown' hgrow
            have t1 : w2.cell? ⟨w.heap.size, 1, none⟩ = some (.int .i32 0) := by rw [cell_d hd2]; rfl
            have t1f := free_d hd2 1
            have HS2 : Hid (St w.heap.size w ((w2.setCell ⟨w.heap.size, 1, none⟩ (.int .i32 1)).setCell ⟨w.heap.size, 1, none⟩ (.int .i32 0)) a2 a1 (k + 1) (.slice (some ⟨g2, 0, none⟩) (k + 1) c2) (.slice (some ⟨g', 0, none⟩) (k + 1) c') (ps ++ [nb])) := hst2
            clear hown' hgrow hst2 hd2
            go_wp2_with (first
              | (go_at_call 5; refine (trylock_free ⟨w.heap.size, 1, none⟩ _ t1 t1f).mono ?_; rintro e w3 ⟨rfl, rfl⟩)
              | (go_at_call 6; refine (unlock_held Ybaz.muLib ⟨w.heap.size, 1, none⟩ _ (World.cell?_setCell_same _ _ _ t1) (by simp [t1f])).mono ?_; rintro e w3 ⟨rfl, rfl⟩))
            go_roundw
            case rel => exact ⟨k + 1, _, _, by omega, by go_num, HS2.out⟩
            case measure => simp [intOf]; omega
    · obtain rfl : i = len0 := by omega
      rename World => wo
      obtain ⟨ga, gc, rfl⟩ := own_shape hst.got
      obtain ⟨la, lc, rfl⟩ := own_shape hst.lis
      have d0 : wo.cell? ⟨w.heap.size, 0, none⟩ = some (.pointer none) := by rw [cell_d hst.d]; rfl
      have d3 : wo.cell? ⟨w.heap.size, 3, none⟩ = some (.slice la i lc) := by rw [cell_d hst.d]; rfl
      have d4 : wo.cell? ⟨w.heap.size, 4, none⟩ = some (.bool a2) := by rw [cell_d hst.d]; rfl
      have d5 : wo.cell? ⟨w.heap.size, 5, none⟩ = some (.int .i64 a1) := by rw [cell_d hst.d]; rfl
      have d6 : wo.cell? ⟨w.heap.size, 6, none⟩ = some (.map none) := by rw [cell_d hst.d]; rfl
      have d7 : wo.cell? ⟨w.heap.size, 7, none⟩ = some (.chan none) := by rw [cell_d hst.d]; rfl
      have n5 := neq40_same
      have n8 := eqmap
      have n9 := eqchan
      have n10 := eqptr
      have HST : Hid (St w.heap.size w wo a2 a1 i (.slice ga i gc) (.slice la i lc) ps) := hst
      clear hst hops hb36
      go_wp2
      go_loopw [18] (fun vk wx => ∃ (k n : Nat), k ≤ i ∧ vk = .int .i64 k ∧ wx = wo.drewN n) (fun vk _ => i - (intOf vk).toNat)
      case atStart => exact ⟨0, 0, by omega, rfl, rfl⟩
      case round =>
        obtain ⟨k, n, hk, rfl, hwx⟩ := hrel
        by_cases hki : k < i
        · obtain ⟨g, hga, hcell⟩ := own_cell HST.out.got hki
          obtain ⟨g', hla, hcell'⟩ := own_cell HST.out.lis hki
          subst hga hla
          have hkp : k < ps.length := by rw [HST.out.len]; omega
          rw [List.getElem?_map, List.getElem?_eq_getElem hkp] at hcell hcell'
          obtain ⟨b, hb⟩ : ∃ b, ps[k] = b := ⟨_, rfl⟩
          rw [hb] at hcell hcell'
          simp only [Option.map_some, ptrV, ifV] at hcell hcell'
          have q1 : (k : Int) < (i : Int) := by omega
          clear hb
          have d3' : wr.cell? ⟨w.heap.size, 3, none⟩ = some (.slice (some ⟨g', 0, none⟩) i lc) := by rw [hwx]; exact d3
          have hcl : wr.cell? ⟨g, k, none⟩ = some (.pointer (some ⟨b, 0, none⟩)) := by rw [hwx]; exact hcell
          have hcl' : wr.cell? ⟨g', k, none⟩ = some (.iface 38 (.pointer (some ⟨b, 0, none⟩))) := by rw [hwx]; exact hcell'
          have HWX : Hid (wr = wo.drewN n) := hwx
          clear hwx hcell hcell'
          go_wp2
          go_quiet (fail)
          go_wp2
          go_roundw
          case rel => exact ⟨k + 1, n + nq, by omega, by go_num, by rw [HWX.out]; simp⟩
          case measure => simp [intOf]; omega
        · obtain rfl : k = i := by omega
          subst hwx
          go_wp2
          go_ret
          exact ⟨rfl, below_dn' HST.out.below⟩

set_option maxRecDepth 100000 in
theorem law_big (ao : Option Addr) (len0 cap0 : Nat) (a1 : Int) (a2 : Bool) (w : World) (hlen : 1024 < len0) :
    Calls Ybaz.prog 3 #[.slice ao len0 cap0, .int .i64 a1, .bool a2] w fun e w' => e = .returned (.bool true) ∧ Below w.heap.size w w' := by
  have hl1 : (1024 : Int) < (len0 : Int) := by omega
  go_enter Ybaz.func3, Ybaz.ntmps3
  go_wp2
  go_ret
  exact ⟨rfl, Below.refl _ _⟩
end Go.Proofs.YbulkcmwsGreat
