/-
  sync.Mutex.TryLock and (*Drain).Listener, walked.
-/
import Derived.Test.YbulkcmwsGreatLocks
import Derived.WalkKit
import Derived.WalkSpells
namespace Go.Proofs.YbulkcmwsGreat
open Go.RowKit Go.MuLone
set_option maxRecDepth 100000 in
set_option maxHeartbeats 800000 in
/-- (*internal/sync.Mutex).TryLock, free and nobody waiting. -/
theorem itrylock_free (a : Addr) (w : World) (hc : w.cell? a = some (.int .i32 0)) (hz : w.frozen? a = false) :
    Calls Ybaz.prog 8 #[.pointer (some a)] w fun e w' => e = .returned (.bool true) ∧ w' = w.setCell a (.int .i32 1) := by
  have hd : ∀ w, (callFunc 11 #[]).run Ybaz.prog w = .ok (.value (.tuple #[])) w := fun w => run_call_mark0 Ybaz.func11 (by kernel_rfl) (by kernel_rfl) (by kernel_rfl) .disable (by kernel_rfl) w
  have he : ∀ w, (callFunc 12 #[]).run Ybaz.prog w = .ok (.value (.tuple #[])) w := fun w => run_call_mark0 Ybaz.func12 (by kernel_rfl) (by kernel_rfl) (by kernel_rfl) .enable (by kernel_rfl) w
  have ha : ∀ a w, (callFunc 14 #[.pointer (some a)]).run Ybaz.prog w = .ok (.value (.tuple #[])) w := fun a w => run_call_marked Ybaz.func14 (by kernel_rfl) (by kernel_rfl) (by kernel_rfl) .acquire (by kernel_rfl) a w
  have hcas := run_call_cas_hit (P := Ybaz.prog) Ybaz.func13 (by kernel_rfl) (by kernel_rfl) (by kernel_rfl) .i32 (by kernel_rfl) (y := 1) hc hz
  have hc' : (w.setCell a (.int .i32 1)).cell? a = some (.int .i32 1) := by simp [go_sem, hc]
  have hcv := run_convert_to_unsafe (P := Ybaz.prog) (src := 48) (dst := 52) Ybaz.underlying48 Ybaz.underlying52 Ybaz.muLib.room_tIMutex hc'
  go_enter Ybaz.func8, Ybaz.ntmps8
  go_wp2
  go_ret
  exact ⟨rfl, rfl⟩

set_option maxRecDepth 100000 in
theorem trylock_free (a : Addr) (w : World) (hc : w.cell? a = some (.int .i32 0)) (hz : w.frozen? a = false) :
    Calls Ybaz.prog 5 #[.pointer (some a)] w fun e w' => e = .returned (.bool true) ∧ w' = w.setCell a (.int .i32 1) := by
  go_enter Ybaz.func5, Ybaz.ntmps5
  go_wp2_with (go_at_call 8; refine (itrylock_free a _ hc hz).mono ?_; rintro e w' ⟨rfl, rfl⟩)
  go_ret
  exact ⟨rfl, rfl⟩

/-- the Drain in memory. -/
def dobj (lv : Value) (c : Bool) (p : Int) : Obj := .cells #[.pointer none, .int .i32 0, .int .u32 0, lv, .bool c, .int .i64 p, .map none, .chan none] 36 (0, 0)
theorem cell_d {w : World} {D : Nat} {lv : Value} {c : Bool} {p : Int} (h : w.heap[D]? = some (dobj lv c p)) (k : Nat) : w.cell? ⟨D, k, none⟩ = (#[Value.pointer none, .int .i32 0, .int .u32 0, lv, .bool c, .int .i64 p, .map none, .chan none] : Array Value)[k]? := by
  simp [World.cell?, h, dobj]
theorem free_d {w : World} {D : Nat} {lv : Value} {c : Bool} {p : Int} (h : w.heap[D]? = some (dobj lv c p)) (k : Nat) : w.frozen? ⟨D, k, none⟩ = false := by
  simp [World.frozen?, h, dobj]
theorem info40 : (Ybaz.prog.info? 40).map (fun i => (i.zero, i.size, i.bytes)) = some (some .nilIface, 1, 16) := by kernel_rfl
theorem info38 : (Ybaz.prog.info? 38).map (fun i => (i.zero, i.size, i.bytes)) = some (some (.pointer none), 1, 8) := by kernel_rfl
theorem build44n (D : Nat) (w : World) : (Instr.build 44 #[(0, .nilIface), (1, .pointer (some ⟨D, 0, none⟩))]).run Ybaz.prog w = .ok (.agg #[.nilIface, .pointer (some ⟨D, 0, none⟩)]) w := run_build w 44 _ _ (by kernel_rfl)
theorem build44p (D b : Nat) (w : World) : (Instr.build 44 #[(0, .iface 38 (.pointer (some ⟨b, 0, none⟩))), (1, .pointer (some ⟨D, 0, none⟩))]).run Ybaz.prog w = .ok (.agg #[.iface 38 (.pointer (some ⟨b, 0, none⟩)), .pointer (some ⟨D, 0, none⟩)]) w := run_build w 44 _ _ (by kernel_rfl)

/-- all that a call of Listener leaves. -/
structure After (D : Nat) (lv l : Value) (c : Bool) (p : Int) (n : Nat) (xs : List Value) (w w' : World) : Prop where
  os : w'.os = w.os
  tape : w'.tape = w.tape
  output : w'.output = w.output
  size : w.heap.size < w'.heap.size
  block : ∀ k, k < w.heap.size → k ≠ D → some k ≠ lv.ownBlock → w'.heap[k]? = w.heap[k]?
  d : ∃ lv', w'.heap[D]? = some (dobj lv' c p) ∧ w'.ownsRow (D + 1) 40 1 lv' (n + 1) (xs ++ [.iface 38 (.pointer (some ⟨w.heap.size, 0, none⟩))])
  new : w'.heap[w.heap.size]? = some (.cells #[l, .pointer (some ⟨D, 0, none⟩)] 44 (0, 0))

theorem cell_one_new' (w : World) (u : Value) (o : Obj) (t : TypeId) (D : Nat) : ∀ (j : Nat) (x : Value), [u][j]? = some x → (((w.setCell ⟨D, 1, none⟩ (.int .i32 1)).alloc o).alloc (.cells #[u] t)).cell? ((⟨w.heap.size + 1, 0, none⟩ : Addr).add j) = some x := by
  intro j x hj
  match j, hj with
  | 0, hj => simp at hj; subst hj; simp [Addr.add, go_sem]
theorem own_some {w : World} {base : Nat} {e : TypeId} {size : Nat} {v : Value} {n : Nat} {xs : List Value} (h : w.ownsRow base e size v (n + 1) xs) : ∃ g cap, v = .slice (some ⟨g, 0, none⟩) (n + 1) cap := by
  rcases h.2 with ⟨_, h0⟩ | ⟨g, cap, cur, rfl, _⟩
  · omega
  · exact ⟨g, cap, rfl⟩
/-- the Drain while the lock is held. -/
def dheld (lv : Value) (c : Bool) (p : Int) : Obj := .cells #[.pointer none, .int .i32 1, .int .u32 0, lv, .bool c, .int .i64 p, .map none, .chan none] 36 (0, 0)
theorem heap_set {w : World} {D k : Nat} {u : Value} {cs : Array Value} {t : TypeId} (h : w.heap[D]? = some (.cells cs t (0, 0))) : (w.setCell ⟨D, k, none⟩ u).heap[D]? = some (.cells (cs.setIfInBounds k u) t (0, 0)) := by
  simp [World.setCell, Array.getElem?_modify, h]
theorem heap_set_other {w : World} {D k b : Nat} {u : Value} (h : b ≠ D) : (w.setCell ⟨D, k, none⟩ u).heap[b]? = w.heap[b]? := by
  simp only [World.setCell, Array.getElem?_modify]
  rw [if_neg (by omega)]
theorem size_set (w : World) (a : Addr) (u : Value) : (w.setCell a u).heap.size = w.heap.size := by simp [World.setCell]

theorem held_of {w w1 : World} {D : Nat} {lv : Value} {c : Bool} {p : Int} {o1 o2 : Obj} (hD : w.heap[D]? = some (dobj lv c p)) (hne : lv.ownBlock ≠ some D)
    (hg : (((w.setCell ⟨D, 1, none⟩ (.int .i32 1)).alloc o1).alloc o2).grownBy w1 lv.ownBlock) : w1.heap[D]? = some (dheld lv c p) := by
  have hlt : D < w.heap.size := lt_of_block hD
  rw [hg.block D (by simp; omega) (fun h => hne h.symm), Below.heap_alloc _ _ _ (by simp; omega), Below.heap_alloc _ _ _ (by simp; omega), heap_set hD]
  rfl
theorem cell_h {w : World} {D : Nat} {lv : Value} {c : Bool} {p : Int} (h : w.heap[D]? = some (dheld lv c p)) (k : Nat) : w.cell? ⟨D, k, none⟩ = (#[Value.pointer none, .int .i32 1, .int .u32 0, lv, .bool c, .int .i64 p, .map none, .chan none] : Array Value)[k]? := by
  simp [World.cell?, h, dheld]
theorem free_h {w : World} {D : Nat} {lv : Value} {c : Bool} {p : Int} (h : w.heap[D]? = some (dheld lv c p)) (k : Nat) : w.frozen? ⟨D, k, none⟩ = false := by
  simp [World.frozen?, h, dheld]
theorem after_of {w w1 : World} {D : Nat} {lv v' l : Value} {c : Bool} {p : Int} {n : Nat} {xs : List Value} {o2 : Obj} (hD : w.heap[D]? = some (dobj lv c p)) (hne : lv.ownBlock ≠ some D) (hlv : ∀ k, lv.ownBlock = some k → k < w.heap.size)
    (hown : w1.ownsRow (D + 1) 40 1 v' (n + 1) (xs ++ [.iface 38 (.pointer (some ⟨w.heap.size, 0, none⟩))]))
    (hg : (((w.setCell ⟨D, 1, none⟩ (.int .i32 1)).alloc (.cells #[l, .pointer (some ⟨D, 0, none⟩)] 44)).alloc o2).grownBy w1 lv.ownBlock) :
    After D lv l c p n xs w ((w1.setCell ⟨D, 3, none⟩ v').setCell ⟨D, 1, none⟩ (.int .i32 0)) := by
  have hlt : D < w.heap.size := lt_of_block hD
  have h1 := held_of hD hne hg
  have hv : v'.ownBlock ≠ some D := by intro h; have := (hown.lt D h).1; omega
  refine ⟨hg.os, hg.tape, hg.output, ?_, ?_, ⟨v', ?_, ?_⟩, ?_⟩
  · have := hg.size; simp at this ⊢; omega
  · intro k hk hkD hkr
    rw [heap_set_other hkD, heap_set_other hkD, hg.block k (by simp; omega) hkr, Below.heap_alloc _ _ _ (by simp; omega), Below.heap_alloc _ _ _ (by simp; omega), heap_set_other hkD]
  · rw [heap_set (heap_set h1)]; rfl
  · exact ownsRow_setCell_other (ownsRow_setCell_other hown hv _) hv _
  · have hk : w.heap.size ≠ D := by omega
    rw [heap_set_other hk, heap_set_other hk, hg.block w.heap.size (by simp; omega) (fun h => by have := hlv _ h.symm; omega), Below.heap_alloc _ _ _ (by simp)]
    have e : (w.setCell ⟨D, 1, none⟩ (.int .i32 1)).heap.size = w.heap.size := size_set _ _ _
    rw [← e]
    exact heap_alloc_new _ _

set_option maxRecDepth 100000 in
set_option maxHeartbeats 800000 in
theorem listener_walk (D : Nat) (lv l : Value) (c : Bool) (p : Int) (n : Nat) (xs : List Value) (w : World) (hD : w.heap[D]? = some (dobj lv c p)) (hown : w.ownsRow (D + 1) 40 1 lv n xs) (hn : n < 1024) (hl : l = .nilIface ∨ ∃ b, l = .iface 38 (.pointer (some ⟨b, 0, none⟩))) :
    Calls Ybaz.prog 4 #[.pointer (some ⟨D, 0, none⟩), l] w fun e w' => e = .returned (.iface 38 (.pointer (some ⟨w.heap.size, 0, none⟩))) ∧ After D lv l c p n xs w w' := by
  have c1 : w.cell? ⟨D, 1, none⟩ = some (.int .i32 0) := by rw [cell_d hD]; rfl
  have c3 : w.cell? ⟨D, 3, none⟩ = some lv := by rw [cell_d hD]; rfl
  have f1 := free_d hD 1
  have f3 := free_d hD 3
  have hlt : D < w.heap.size := lt_of_block hD
  obtain ⟨i0, hi, hz0, hz1, hz2⟩ := info_parts info40
  have hb1 := build44n D
  have hb2 := build44p D
  have HD : Hid (w.heap[D]? = some (dobj lv c p)) := hD
  have hne : lv.ownBlock ≠ some D := by
    intro h; have := (hown.lt D h).1; omega
  have hown1 : (w.setCell ⟨D, 1, none⟩ (.int .i32 1)).ownsRow (D + 1) 40 1 lv n xs := ownsRow_setCell_other hown hne _
  clear hD
  rcases hl with rfl | ⟨b0, rfl⟩
  · go_enter_defers Ybaz.func4, Ybaz.ntmps4
    go_wp2_with (first
      | (go_at_call 7; refine (lock_free Ybaz.muLib ⟨D, 1, none⟩ _ c1 f1).mono ?_; rintro e w' ⟨rfl, rfl⟩)
      | (at_builtin; refine wpList_append_own _ rfl _ _ 32 rfl (D + 1) 40 i0 .nilIface 1 16 Ybaz.underlying32 hi hz0 hz1 hz2 rfl (by decide) _ _ _ rfl ((hown1.alloc _).alloc _) ⟨w.heap.size + 1, 0, none⟩ 1 1 [.iface 38 (.pointer (some ⟨w.heap.size, 0, none⟩))] rfl rfl ?c1 ?c2 ?c3 ?c4 ?c5 ?_))
    case c1 => exact cell_one_new' _ _ _ _ _
    case c2 => intro u hu; simp at hu; subst hu; rfl
    case c3 => unfold maxLen; omega
    case c4 => omega
    case c5 => simp; omega
    intro v' w1 hown' hgrow _
    obtain ⟨g, cap, hv'⟩ := own_some hown'
    subst hv'
    have HG := held_of HD.out hne hgrow
    have g3 : w1.cell? ⟨D, 3, none⟩ = some lv := by rw [cell_h HG]; rfl
    have z3 := free_h HG 3
    have g1 : w1.cell? ⟨D, 1, none⟩ = some (.int .i32 1) := by rw [cell_h HG]; rfl
    have z1 := free_h HG 1
    have HA : Hid (After D lv .nilIface c p n xs w ((w1.setCell ⟨D, 3, none⟩ (.slice (some ⟨g, 0, none⟩) (n + 1) cap)).setCell ⟨D, 1, none⟩ (.int .i32 0))) := after_of HD.out hne (fun k hk => (hown.lt k hk).2) hown' hgrow
    clear hown' hgrow HG
    go_wp2
    refine leaves_cons (f := 6) (args := #[.pointer (some ⟨D, 1, none⟩)]) (by simp) (by simp [go_sem]) ?_
    refine (unlock_deferred Ybaz.muLib ⟨D, 1, none⟩ .returning _ ?_ ?_).mono ?_
    · exact (World.cell?_setCell_other _ ⟨D, 3, none⟩ ⟨D, 1, none⟩ _ (by simp)).trans g1
    · simp [z1]
    rintro e u' w'' ⟨rfl, rfl, rfl⟩
    exact ⟨_, results_tmp rfl _ _ _, rfl, HA.out⟩
  · go_enter_defers Ybaz.func4, Ybaz.ntmps4
    go_wp2_with (first
      | (go_at_call 7; refine (lock_free Ybaz.muLib ⟨D, 1, none⟩ _ c1 f1).mono ?_; rintro e w' ⟨rfl, rfl⟩)
      | (at_builtin; refine wpList_append_own _ rfl _ _ 32 rfl (D + 1) 40 i0 .nilIface 1 16 Ybaz.underlying32 hi hz0 hz1 hz2 rfl (by decide) _ _ _ rfl ((hown1.alloc _).alloc _) ⟨w.heap.size + 1, 0, none⟩ 1 1 [.iface 38 (.pointer (some ⟨w.heap.size, 0, none⟩))] rfl rfl ?c1 ?c2 ?c3 ?c4 ?c5 ?_))
    case c1 => exact cell_one_new' _ _ _ _ _
    case c2 => intro u hu; simp at hu; subst hu; rfl
    case c3 => unfold maxLen; omega
    case c4 => omega
    case c5 => simp; omega
    intro v' w1 hown' hgrow _
    obtain ⟨g, cap, hv'⟩ := own_some hown'
    subst hv'
    have HG := held_of HD.out hne hgrow
    have g3 : w1.cell? ⟨D, 3, none⟩ = some lv := by rw [cell_h HG]; rfl
    have z3 := free_h HG 3
    have g1 : w1.cell? ⟨D, 1, none⟩ = some (.int .i32 1) := by rw [cell_h HG]; rfl
    have z1 := free_h HG 1
    have HA : Hid (After D lv (.iface 38 (.pointer (some ⟨b0, 0, none⟩))) c p n xs w ((w1.setCell ⟨D, 3, none⟩ (.slice (some ⟨g, 0, none⟩) (n + 1) cap)).setCell ⟨D, 1, none⟩ (.int .i32 0))) := after_of HD.out hne (fun k hk => (hown.lt k hk).2) hown' hgrow
    clear hown' hgrow HG
    go_wp2
    refine leaves_cons (f := 6) (args := #[.pointer (some ⟨D, 1, none⟩)]) (by simp) (by simp [go_sem]) ?_
    refine (unlock_deferred Ybaz.muLib ⟨D, 1, none⟩ .returning _ ?_ ?_).mono ?_
    · exact (World.cell?_setCell_other _ ⟨D, 3, none⟩ ⟨D, 1, none⟩ _ (by simp)).trans g1
    · simp [z1]
    rintro e u' w'' ⟨rfl, rfl, rfl⟩
    exact ⟨_, results_tmp rfl _ _ _, rfl, HA.out⟩
end Go.Proofs.YbulkcmwsGreat
