import Derived.Test.YbulkcmvcTrimA
import Derived.WalkKit
import Derived.WalkSpells
import Derived.BigRegion
import Derived.BigQuiet
import Derived.Deep.QuietTactic
import Derived.Deep.RegionLaw
import Derived.Handy
namespace Go.Proofs.Ybulkcmvc
open Go.RowKit
theorem ends_one (L : Runs) : ∀ u ∈ endsV L, u.oneCell' = true := by
  intro u hu
  simp only [endsV, List.mem_map] at hu
  obtain ⟨a, _, rfl⟩ := hu
  rfl
theorem Fing.drewN {w : World} {base T : Nat} {s l : Int} {nv ev : Value} {L : Runs} (h : Fing w base T s l nv ev L) (n : Nat) : Fing (w.drewN n) base T s l nv ev L := h.kept ((Kept.refl (fun _ => False) w).drewN) (fun _ _ x => x)
theorem Fing.block_lt {w : World} {base T : Nat} {s l : Int} {nv ev : Value} {L : Runs} (h : Fing w base T s l nv ev L) : ∀ g, In T nv ev g → g < w.heap.size := by
  intro g hg
  rcases hg with rfl | hg | hg
  · exact lt_t h.t
  · exact (h.nodes.lt g hg).2
  · exact (h.ends.lt g hg).2

set_option maxRecDepth 100000 in
set_option maxHeartbeats 1000000 in
theorem trim_n (base T g1 g2 c1 : Nat) (s l : Int) (L : Runs) (hn0 : 0 < L.length) (hn2 : L.length < 256) (hc1 : L.length < c1) (w : World) (hbT : base ≤ w.heap.size) (hF : Fing w base T s l (.slice (some ⟨g1, 0, none⟩) L.length c1) (.slice (some ⟨g2, 0, none⟩) L.length L.length) L) :
    Calls Yba.prog 30 #[.pointer (some ⟨T, 13, none⟩)] w fun e w' => e = .returned (.tuple #[]) ∧ ∃ nv' ev', Fing w' base T s l nv' ev' L ∧ Kept (In T (.slice (some ⟨g1, 0, none⟩) L.length c1) (.slice (some ⟨g2, 0, none⟩) L.length L.length)) w w' := by
  have t13 : w.cell? ⟨T, 13, none⟩ = some (.slice (some ⟨g1, 0, none⟩) L.length c1) := by rw [cell_t hF.t]; rfl
  have t14 : w.cell? ⟨T, 14, none⟩ = some (.slice (some ⟨g2, 0, none⟩) L.length L.length) := by rw [cell_t hF.t]; rfl
  have HF : Hid (Fing w base T s l (.slice (some ⟨g1, 0, none⟩) L.length c1) (.slice (some ⟨g2, 0, none⟩) L.length L.length) L) := hF
  clear hF
  have q1 : (L.length : Int) < (c1 : Int) := by omega
  go_enter Yba.func30, Yba.ntmps30
  go_wp2
  go_quiet (fail)
  go_wp2
  obtain ⟨W, hW⟩ : ∃ W, W = w.drewN nq := ⟨_, rfl⟩
  rw [← hW]
  have hFW : Fing W base T s l (.slice (some ⟨g1, 0, none⟩) L.length c1) (.slice (some ⟨g2, 0, none⟩) L.length L.length) L := by rw [hW]; exact HF.out.drewN _
  have hbW : base ≤ W.heap.size := by rw [hW]; exact hbT
  have KW : Hid (Kept (In T (.slice (some ⟨g1, 0, none⟩) L.length c1) (.slice (some ⟨g2, 0, none⟩) L.length L.length)) w W) := by rw [hW]; exact (Kept.refl _ w).drewN
  clear hW
  obtain ⟨i0, hi, hz0, hz1, hz2⟩ := info_parts info38
  have u13 : W.cell? ⟨T, 13, none⟩ = some (.slice (some ⟨g1, 0, none⟩) L.length c1) := by rw [cell_t hFW.t]; rfl
  have pT : T < W.heap.size := lt_t hFW.t
  have pT2 : T ≠ W.heap.size := by omega
  have hmk : ∀ w, (Instr.makeSlice 32 (.int .i64 0) (.int .i64 L.length)).run Yba.prog w = .ok (.slice (some ⟨w.heap.size, 0, none⟩) 0 L.length) (w.alloc (.cells (madeCells (zeroPeer).cells (L.length * 6)) 38)) := fun w => by
    have h := run_makeSlice (P := Yba.prog) w 32 38 i0 zeroPeer Yba.underlying32 hi hz0 .i64 .i64 0 (L.length : Int) (by decide) (by omega) (by rw [hz1]; simp; omega) (by rw [hz2]; omega) (by omega)
    rw [hz1] at h
    simpa using h
  have u13' : ∀ o, (W.drew.alloc o).cell? ⟨T, 13, none⟩ = some (.slice (some ⟨g1, 0, none⟩) L.length c1) := fun o => (World.cell?_alloc_old _ _ _ (by simpa using pT2)).trans u13
  have hnm : L.length ≤ maxLen := by unfold maxLen; omega
  obtain ⟨X, hX⟩ : ∃ X, X = W.drew.alloc (.cells (madeCells (zeroPeer).cells (L.length * 6)) 38) := ⟨_, rfl⟩
  have hmade : X.ownsRow base 38 6 (.slice (some ⟨W.heap.size, 0, none⟩) 0 L.length) 0 [] := by rw [hX]; have h := own_made (W := W.drew) (n := L.length) (size := 6) (e := 38) (zs := (zeroPeer).cells) hbW hnm; exact h
  have kX : Kept (fun _ => False) W X := by rw [hX]; exact (Kept.refl _ _).drew.alloc _
  have hFX := hFW.kept kX (fun _ _ x => x)
  have hcl : ∀ j u, (flat L)[j]? = some u → X.cell? ((⟨g1, 0, none⟩ : Addr).add j) = some u := by
    intro j u hj
    have hlen : j < (flat L).length := by rcases Nat.lt_or_ge j (flat L).length with h | h; exact h; rw [List.getElem?_eq_none h] at hj; cases hj
    rw [show ((⟨g1, 0, none⟩ : Addr).add j) = ⟨g1, j, none⟩ by simp [Addr.add]; omega, own_cells hFX.nodes j (by rw [hFX.nodes.1] at hlen; exact hlen)]
    exact hj
  have hsz : base ≤ X.heap.size := by have := kX.size; omega
  rw [hX] at hmade hcl hsz
  have HM : Hid _ := hmade
  have HC : Hid _ := hcl
  have HFX : Hid _ := hFX
  have HX : Hid _ := hX
  have HKX : Hid _ := kX
  clear hmade hcl hFX hX kX
  go_region_law (refine step_append_own rfl (.tmp 19) (.tmp 23) 32 rfl base 38 i0 zeroPeer 6 64 Yba.underlying32 hi hz0 hz1 hz2 rfl (by decide) _ 0 [] rfl HM.out ⟨g1, 0, none⟩ L.length c1 (flat L) rfl (by rw [flat_len]) HC.out (flat_one L) (by omega) (by omega) hsz ?_; intro v1 w1 hown1 hgrow1; obtain ⟨h1, d1, rfl⟩ := own_some hown1 (by omega); have hg1 : X.grownBy w1 (some W.heap.size) := (by rw [HX.out]; exact hgrow1); obtain ⟨z1, z2, z3⟩ := set13b HFX.out hown1 hg1 pT2 (fun h => by have := HFX.out.block_lt _ (.inr (.inr h)); have := hFW.block_lt _ (.inr (.inr h)); omega) (by simp) (by simp) rfl rfl; have y13 : w1.cell? ⟨T, 13, none⟩ = some (.slice (some ⟨g1, 0, none⟩) L.length c1) := (by rw [cell_t z1]; rfl); have f13 : w1.frozen? ⟨T, 13, none⟩ = false := free_t z1 13; have HZ2 : Hid _ := z2; have HZ3 : Hid _ := z3; clear z1 z2 z3 hown1 hgrow1 hg1)
  all_goals
    rw [Nat.zero_add] at HZ2 HZ3
    obtain ⟨W1, hW1⟩ : ∃ Z, Z = w1.setCell ⟨T, 13, none⟩ (.slice (some ⟨h1, 0, none⟩) L.length d1) := ⟨_, rfl⟩
    rw [← hW1] at HZ2 HZ3 ⊢
    have KX1 : Kept (fun k => k = T ∨ k = W.heap.size) W W1 := (⟨HKX.out.os, HKX.out.tape, HKX.out.output, HKX.out.size, fun i hi _ => HKX.out.block i hi (fun x => x)⟩ : Kept (fun k => k = T ∨ k = W.heap.size) W X).trans HZ3.out (fun _ _ h => h)
    have hFW1 := HZ2.out
    clear hW1 y13 f13 hmk u13'
    have K1 : Hid (Kept (In T (.slice (some ⟨g1, 0, none⟩) L.length c1) (.slice (some ⟨g2, 0, none⟩) L.length L.length)) w W1) := KW.out.trans KX1 (fun n hn h => by rcases h with h | h; exact .inl h; exact absurd h (by have := KW.out.size; omega))
    have u14 : W1.cell? ⟨T, 14, none⟩ = some (.slice (some ⟨g2, 0, none⟩) L.length L.length) := by rw [cell_t hFW1.t]; rfl
    have HFX' : Hid (Fing W1 base T s l (.slice (some ⟨h1, 0, none⟩) L.length d1) (.slice (some ⟨g2, 0, none⟩) L.length L.length) L) := hFW1
    clear hFW1
    go_wp2
    go_quiet (fail)
    go_wp2
    go_returns
    exact ⟨rfl, _, _, HFX'.out.drewN _, K1.out.drewN⟩

set_option maxRecDepth 100000 in
set_option maxHeartbeats 1000000 in
theorem trim_e (base T g1 g2 c2 : Nat) (s l : Int) (L : Runs) (hn0 : 0 < L.length) (hn2 : L.length < 256) (hc2 : L.length < c2) (w : World) (hbT : base ≤ w.heap.size) (hF : Fing w base T s l (.slice (some ⟨g1, 0, none⟩) L.length L.length) (.slice (some ⟨g2, 0, none⟩) L.length c2) L) :
    Calls Yba.prog 30 #[.pointer (some ⟨T, 13, none⟩)] w fun e w' => e = .returned (.tuple #[]) ∧ ∃ nv' ev', Fing w' base T s l nv' ev' L ∧ Kept (In T (.slice (some ⟨g1, 0, none⟩) L.length L.length) (.slice (some ⟨g2, 0, none⟩) L.length c2)) w w' := by
  have t13 : w.cell? ⟨T, 13, none⟩ = some (.slice (some ⟨g1, 0, none⟩) L.length L.length) := by rw [cell_t hF.t]; rfl
  have t14 : w.cell? ⟨T, 14, none⟩ = some (.slice (some ⟨g2, 0, none⟩) L.length c2) := by rw [cell_t hF.t]; rfl
  have HF : Hid (Fing w base T s l (.slice (some ⟨g1, 0, none⟩) L.length L.length) (.slice (some ⟨g2, 0, none⟩) L.length c2) L) := hF
  clear hF
  have q2 : (L.length : Int) < (c2 : Int) := by omega
  go_enter Yba.func30, Yba.ntmps30
  go_wp2
  go_quiet (fail)
  go_wp2
  obtain ⟨W, hW⟩ : ∃ W, W = w.drewN nq := ⟨_, rfl⟩
  rw [← hW]
  have hFW : Fing W base T s l (.slice (some ⟨g1, 0, none⟩) L.length L.length) (.slice (some ⟨g2, 0, none⟩) L.length c2) L := by rw [hW]; exact HF.out.drewN _
  have hbW : base ≤ W.heap.size := by rw [hW]; exact hbT
  have KW : Hid (Kept (In T (.slice (some ⟨g1, 0, none⟩) L.length L.length) (.slice (some ⟨g2, 0, none⟩) L.length c2)) w W) := by rw [hW]; exact (Kept.refl _ w).drewN
  clear hW
  have u14 : W.cell? ⟨T, 14, none⟩ = some (.slice (some ⟨g2, 0, none⟩) L.length c2) := by rw [cell_t hFW.t]; rfl
  have HFX' : Hid (Fing W base T s l (.slice (some ⟨g1, 0, none⟩) L.length L.length) (.slice (some ⟨g2, 0, none⟩) L.length c2) L) := hFW
  clear hFW
  go_wp2
  go_quiet (fail)
  go_wp2
  obtain ⟨V, hV⟩ : ∃ V, V = W.drewN nq := ⟨_, rfl⟩
  rw [← hV]
  have hFV : Fing V base T s l (.slice (some ⟨g1, 0, none⟩) L.length L.length) (.slice (some ⟨g2, 0, none⟩) L.length c2) L := by rw [hV]; exact HFX'.out.drewN _
  have hbV : base ≤ V.heap.size := by rw [hV]; have := KW.out.size; show base ≤ W.heap.size; omega
  have KV : Hid (Kept (In T (.slice (some ⟨g1, 0, none⟩) L.length L.length) (.slice (some ⟨g2, 0, none⟩) L.length c2)) w V) := by rw [hV]; exact KW.out.drewN
  clear hV
  obtain ⟨i0, hi, hz0, hz1, hz2⟩ := info_parts info5
  have u14 : V.cell? ⟨T, 14, none⟩ = some (.slice (some ⟨g2, 0, none⟩) L.length c2) := by rw [cell_t hFV.t]; rfl
  have pT : T < V.heap.size := lt_t hFV.t
  have pT2 : T ≠ V.heap.size := by omega
  have hmk : ∀ w, (Instr.makeSlice 30 (.int .i64 0) (.int .i64 L.length)).run Yba.prog w = .ok (.slice (some ⟨w.heap.size, 0, none⟩) 0 L.length) (w.alloc (.cells (madeCells ((Value.int .u8 0)).cells (L.length)) 5)) := fun w => by
    have h := run_makeSlice (P := Yba.prog) w 30 5 i0 (Value.int .u8 0) Yba.underlying30 hi hz0 .i64 .i64 0 (L.length : Int) (by decide) (by omega) (by rw [hz1]; simp; omega) (by rw [hz2]; omega) (by omega)
    rw [hz1] at h
    simpa using h
  have u14' : ∀ o, (V.drew.alloc o).cell? ⟨T, 14, none⟩ = some (.slice (some ⟨g2, 0, none⟩) L.length c2) := fun o => (World.cell?_alloc_old _ _ _ (by simpa using pT2)).trans u14
  have hnm : L.length ≤ maxLen := by unfold maxLen; omega
  obtain ⟨X, hX⟩ : ∃ X, X = V.drew.alloc (.cells (madeCells ((Value.int .u8 0)).cells (L.length)) 5) := ⟨_, rfl⟩
  have hmade : X.ownsRow base 5 1 (.slice (some ⟨V.heap.size, 0, none⟩) 0 L.length) 0 [] := by rw [hX]; have h := own_made (W := V.drew) (n := L.length) (size := 1) (e := 5) (zs := ((Value.int .u8 0)).cells) hbV hnm; rw [Nat.mul_one] at h; exact h
  have kX : Kept (fun _ => False) V X := by rw [hX]; exact (Kept.refl _ _).drew.alloc _
  have hFX := hFV.kept kX (fun _ _ x => x)
  have hcl : ∀ j u, (endsV L)[j]? = some u → X.cell? ((⟨g2, 0, none⟩ : Addr).add j) = some u := by
    intro j u hj
    have hlen : j < (endsV L).length := by rcases Nat.lt_or_ge j (endsV L).length with h | h; exact h; rw [List.getElem?_eq_none h] at hj; cases hj
    rw [show ((⟨g2, 0, none⟩ : Addr).add j) = ⟨g2, j, none⟩ by simp [Addr.add]; omega, own_cells hFX.ends j (by rw [hFX.ends.1] at hlen; exact hlen)]
    exact hj
  have hsz : base ≤ X.heap.size := by have := kX.size; omega
  rw [hX] at hmade hcl hsz
  have HM : Hid _ := hmade
  have HC : Hid _ := hcl
  have HFX : Hid _ := hFX
  have HX : Hid _ := hX
  have HKX : Hid _ := kX
  clear hmade hcl hFX hX kX
  go_region_law (refine step_append_own rfl (.tmp 44) (.tmp 48) 30 rfl base 5 i0 (Value.int .u8 0) 1 1 Yba.underlying30 hi hz0 hz1 hz2 rfl (by decide) _ 0 [] rfl HM.out ⟨g2, 0, none⟩ L.length c2 (endsV L) rfl (by simp [endsV]) HC.out (ends_one L) (by omega) (by omega) hsz ?_; intro v1 w1 hown1 hgrow1; obtain ⟨h2, d2, rfl⟩ := own_some hown1 (by omega); have hg1 : X.grownBy w1 (some V.heap.size) := (by rw [HX.out]; exact hgrow1); obtain ⟨z1, z2, z3⟩ := set14b HFX.out hown1 hg1 pT2 (fun h => by have := HFX.out.block_lt _ (.inr (.inl h)); have := hFV.block_lt _ (.inr (.inl h)); omega) (by simp) (by simp) rfl rfl; have y14 : w1.cell? ⟨T, 14, none⟩ = some (.slice (some ⟨g2, 0, none⟩) L.length c2) := (by rw [cell_t z1]; rfl); have f14 : w1.frozen? ⟨T, 14, none⟩ = false := free_t z1 14; have HZ2 : Hid _ := z2; have HZ3 : Hid _ := z3; clear z1 z2 z3 hown1 hgrow1 hg1)
  all_goals
    rw [Nat.zero_add] at HZ2 HZ3
    obtain ⟨V1, hW1⟩ : ∃ Z, Z = w1.setCell ⟨T, 14, none⟩ (.slice (some ⟨h2, 0, none⟩) L.length d2) := ⟨_, rfl⟩
    rw [← hW1] at HZ2 HZ3 ⊢
    have KX1 : Kept (fun k => k = T ∨ k = V.heap.size) V V1 := (⟨HKX.out.os, HKX.out.tape, HKX.out.output, HKX.out.size, fun i hi _ => HKX.out.block i hi (fun x => x)⟩ : Kept (fun k => k = T ∨ k = V.heap.size) V X).trans HZ3.out (fun _ _ h => h)
    have hFV1 := HZ2.out
    clear hW1 y14 f14 hmk u14'
    have K2 : Kept (In T (.slice (some ⟨g1, 0, none⟩) L.length L.length) (.slice (some ⟨g2, 0, none⟩) L.length c2)) w V1 := KV.out.trans KX1 (fun n hn h => by rcases h with h | h; exact .inl h; exact absurd h (by have := KV.out.size; omega))
    have HFL : Hid _ := hFV1
    clear hFV1 hFV
    go_wp2
    go_returns
    exact ⟨rfl, ⟨_, _, HFL.out⟩, K2⟩

set_option maxRecDepth 100000 in
set_option maxHeartbeats 1000000 in
theorem trim_ne (base T g1 g2 c1 c2 : Nat) (s l : Int) (L : Runs) (hn0 : 0 < L.length) (hn2 : L.length < 256) (hc1 : L.length < c1) (hc2 : L.length < c2) (w : World) (hbT : base ≤ w.heap.size) (hF : Fing w base T s l (.slice (some ⟨g1, 0, none⟩) L.length c1) (.slice (some ⟨g2, 0, none⟩) L.length c2) L) :
    Calls Yba.prog 30 #[.pointer (some ⟨T, 13, none⟩)] w fun e w' => e = .returned (.tuple #[]) ∧ ∃ nv' ev', Fing w' base T s l nv' ev' L ∧ Kept (In T (.slice (some ⟨g1, 0, none⟩) L.length c1) (.slice (some ⟨g2, 0, none⟩) L.length c2)) w w' := by
  have t13 : w.cell? ⟨T, 13, none⟩ = some (.slice (some ⟨g1, 0, none⟩) L.length c1) := by rw [cell_t hF.t]; rfl
  have t14 : w.cell? ⟨T, 14, none⟩ = some (.slice (some ⟨g2, 0, none⟩) L.length c2) := by rw [cell_t hF.t]; rfl
  have HF : Hid (Fing w base T s l (.slice (some ⟨g1, 0, none⟩) L.length c1) (.slice (some ⟨g2, 0, none⟩) L.length c2) L) := hF
  clear hF
  have q1 : (L.length : Int) < (c1 : Int) := by omega
  have q2 : (L.length : Int) < (c2 : Int) := by omega
  go_enter Yba.func30, Yba.ntmps30
  go_wp2
  go_quiet (fail)
  go_wp2
  obtain ⟨W, hW⟩ : ∃ W, W = w.drewN nq := ⟨_, rfl⟩
  rw [← hW]
  have hFW : Fing W base T s l (.slice (some ⟨g1, 0, none⟩) L.length c1) (.slice (some ⟨g2, 0, none⟩) L.length c2) L := by rw [hW]; exact HF.out.drewN _
  have hbW : base ≤ W.heap.size := by rw [hW]; exact hbT
  have KW : Hid (Kept (In T (.slice (some ⟨g1, 0, none⟩) L.length c1) (.slice (some ⟨g2, 0, none⟩) L.length c2)) w W) := by rw [hW]; exact (Kept.refl _ w).drewN
  clear hW
  obtain ⟨i0, hi, hz0, hz1, hz2⟩ := info_parts info38
  have u13 : W.cell? ⟨T, 13, none⟩ = some (.slice (some ⟨g1, 0, none⟩) L.length c1) := by rw [cell_t hFW.t]; rfl
  have pT : T < W.heap.size := lt_t hFW.t
  have pT2 : T ≠ W.heap.size := by omega
  have hmk : ∀ w, (Instr.makeSlice 32 (.int .i64 0) (.int .i64 L.length)).run Yba.prog w = .ok (.slice (some ⟨w.heap.size, 0, none⟩) 0 L.length) (w.alloc (.cells (madeCells (zeroPeer).cells (L.length * 6)) 38)) := fun w => by
    have h := run_makeSlice (P := Yba.prog) w 32 38 i0 zeroPeer Yba.underlying32 hi hz0 .i64 .i64 0 (L.length : Int) (by decide) (by omega) (by rw [hz1]; simp; omega) (by rw [hz2]; omega) (by omega)
    rw [hz1] at h
    simpa using h
  have u13' : ∀ o, (W.drew.alloc o).cell? ⟨T, 13, none⟩ = some (.slice (some ⟨g1, 0, none⟩) L.length c1) := fun o => (World.cell?_alloc_old _ _ _ (by simpa using pT2)).trans u13
  have hnm : L.length ≤ maxLen := by unfold maxLen; omega
  obtain ⟨X, hX⟩ : ∃ X, X = W.drew.alloc (.cells (madeCells (zeroPeer).cells (L.length * 6)) 38) := ⟨_, rfl⟩
  have hmade : X.ownsRow base 38 6 (.slice (some ⟨W.heap.size, 0, none⟩) 0 L.length) 0 [] := by rw [hX]; have h := own_made (W := W.drew) (n := L.length) (size := 6) (e := 38) (zs := (zeroPeer).cells) hbW hnm; exact h
  have kX : Kept (fun _ => False) W X := by rw [hX]; exact (Kept.refl _ _).drew.alloc _
  have hFX := hFW.kept kX (fun _ _ x => x)
  have hcl : ∀ j u, (flat L)[j]? = some u → X.cell? ((⟨g1, 0, none⟩ : Addr).add j) = some u := by
    intro j u hj
    have hlen : j < (flat L).length := by rcases Nat.lt_or_ge j (flat L).length with h | h; exact h; rw [List.getElem?_eq_none h] at hj; cases hj
    rw [show ((⟨g1, 0, none⟩ : Addr).add j) = ⟨g1, j, none⟩ by simp [Addr.add]; omega, own_cells hFX.nodes j (by rw [hFX.nodes.1] at hlen; exact hlen)]
    exact hj
  have hsz : base ≤ X.heap.size := by have := kX.size; omega
  rw [hX] at hmade hcl hsz
  have HM : Hid _ := hmade
  have HC : Hid _ := hcl
  have HFX : Hid _ := hFX
  have HX : Hid _ := hX
  have HKX : Hid _ := kX
  clear hmade hcl hFX hX kX
  go_region_law (refine step_append_own rfl (.tmp 19) (.tmp 23) 32 rfl base 38 i0 zeroPeer 6 64 Yba.underlying32 hi hz0 hz1 hz2 rfl (by decide) _ 0 [] rfl HM.out ⟨g1, 0, none⟩ L.length c1 (flat L) rfl (by rw [flat_len]) HC.out (flat_one L) (by omega) (by omega) hsz ?_; intro v1 w1 hown1 hgrow1; obtain ⟨h1, d1, rfl⟩ := own_some hown1 (by omega); have hg1 : X.grownBy w1 (some W.heap.size) := (by rw [HX.out]; exact hgrow1); obtain ⟨z1, z2, z3⟩ := set13b HFX.out hown1 hg1 pT2 (fun h => by have := HFX.out.block_lt _ (.inr (.inr h)); have := hFW.block_lt _ (.inr (.inr h)); omega) (by simp) (by simp) rfl rfl; have y13 : w1.cell? ⟨T, 13, none⟩ = some (.slice (some ⟨g1, 0, none⟩) L.length c1) := (by rw [cell_t z1]; rfl); have f13 : w1.frozen? ⟨T, 13, none⟩ = false := free_t z1 13; have HZ2 : Hid _ := z2; have HZ3 : Hid _ := z3; clear z1 z2 z3 hown1 hgrow1 hg1)
  all_goals
    rw [Nat.zero_add] at HZ2 HZ3
    obtain ⟨W1, hW1⟩ : ∃ Z, Z = w1.setCell ⟨T, 13, none⟩ (.slice (some ⟨h1, 0, none⟩) L.length d1) := ⟨_, rfl⟩
    rw [← hW1] at HZ2 HZ3 ⊢
    have KX1 : Kept (fun k => k = T ∨ k = W.heap.size) W W1 := (⟨HKX.out.os, HKX.out.tape, HKX.out.output, HKX.out.size, fun i hi _ => HKX.out.block i hi (fun x => x)⟩ : Kept (fun k => k = T ∨ k = W.heap.size) W X).trans HZ3.out (fun _ _ h => h)
    have hFW1 := HZ2.out
    clear hW1 y13 f13 hmk u13'
    have K1 : Hid (Kept (In T (.slice (some ⟨g1, 0, none⟩) L.length c1) (.slice (some ⟨g2, 0, none⟩) L.length c2)) w W1) := KW.out.trans KX1 (fun n hn h => by rcases h with h | h; exact .inl h; exact absurd h (by have := KW.out.size; omega))
    have u14 : W1.cell? ⟨T, 14, none⟩ = some (.slice (some ⟨g2, 0, none⟩) L.length c2) := by rw [cell_t hFW1.t]; rfl
    have HFX' : Hid (Fing W1 base T s l (.slice (some ⟨h1, 0, none⟩) L.length d1) (.slice (some ⟨g2, 0, none⟩) L.length c2) L) := hFW1
    clear hFW1
    go_wp2
    go_quiet (fail)
    go_wp2
    obtain ⟨V, hV⟩ : ∃ V, V = W1.drewN nq := ⟨_, rfl⟩
    rw [← hV]
    have hFV : Fing V base T s l (.slice (some ⟨h1, 0, none⟩) L.length d1) (.slice (some ⟨g2, 0, none⟩) L.length c2) L := by rw [hV]; exact HFX'.out.drewN _
    have hbV : base ≤ V.heap.size := by rw [hV]; have := K1.out.size; show base ≤ W1.heap.size; omega
    have KV : Hid (Kept (In T (.slice (some ⟨g1, 0, none⟩) L.length c1) (.slice (some ⟨g2, 0, none⟩) L.length c2)) w V) := by rw [hV]; exact K1.out.drewN
    clear hV
    obtain ⟨i0, hi, hz0, hz1, hz2⟩ := info_parts info5
    have u14 : V.cell? ⟨T, 14, none⟩ = some (.slice (some ⟨g2, 0, none⟩) L.length c2) := by rw [cell_t hFV.t]; rfl
    have pT : T < V.heap.size := lt_t hFV.t
    have pT2 : T ≠ V.heap.size := by omega
    have hmk : ∀ w, (Instr.makeSlice 30 (.int .i64 0) (.int .i64 L.length)).run Yba.prog w = .ok (.slice (some ⟨w.heap.size, 0, none⟩) 0 L.length) (w.alloc (.cells (madeCells ((Value.int .u8 0)).cells (L.length)) 5)) := fun w => by
      have h := run_makeSlice (P := Yba.prog) w 30 5 i0 (Value.int .u8 0) Yba.underlying30 hi hz0 .i64 .i64 0 (L.length : Int) (by decide) (by omega) (by rw [hz1]; simp; omega) (by rw [hz2]; omega) (by omega)
      rw [hz1] at h
      simpa using h
    have u14' : ∀ o, (V.drew.alloc o).cell? ⟨T, 14, none⟩ = some (.slice (some ⟨g2, 0, none⟩) L.length c2) := fun o => (World.cell?_alloc_old _ _ _ (by simpa using pT2)).trans u14
    have hnm : L.length ≤ maxLen := by unfold maxLen; omega
    obtain ⟨X, hX⟩ : ∃ X, X = V.drew.alloc (.cells (madeCells ((Value.int .u8 0)).cells (L.length)) 5) := ⟨_, rfl⟩
    have hmade : X.ownsRow base 5 1 (.slice (some ⟨V.heap.size, 0, none⟩) 0 L.length) 0 [] := by rw [hX]; have h := own_made (W := V.drew) (n := L.length) (size := 1) (e := 5) (zs := ((Value.int .u8 0)).cells) hbV hnm; rw [Nat.mul_one] at h; exact h
    have kX : Kept (fun _ => False) V X := by rw [hX]; exact (Kept.refl _ _).drew.alloc _
    have hFX := hFV.kept kX (fun _ _ x => x)
    have hcl : ∀ j u, (endsV L)[j]? = some u → X.cell? ((⟨g2, 0, none⟩ : Addr).add j) = some u := by
      intro j u hj
      have hlen : j < (endsV L).length := by rcases Nat.lt_or_ge j (endsV L).length with h | h; exact h; rw [List.getElem?_eq_none h] at hj; cases hj
      rw [show ((⟨g2, 0, none⟩ : Addr).add j) = ⟨g2, j, none⟩ by simp [Addr.add]; omega, own_cells hFX.ends j (by rw [hFX.ends.1] at hlen; exact hlen)]
      exact hj
    have hsz : base ≤ X.heap.size := by have := kX.size; omega
    rw [hX] at hmade hcl hsz
    have HM : Hid _ := hmade
    have HC : Hid _ := hcl
    have HFX : Hid _ := hFX
    have HX : Hid _ := hX
    have HKX : Hid _ := kX
    clear hmade hcl hFX hX kX
    go_region_law (refine step_append_own rfl (.tmp 44) (.tmp 48) 30 rfl base 5 i0 (Value.int .u8 0) 1 1 Yba.underlying30 hi hz0 hz1 hz2 rfl (by decide) _ 0 [] rfl HM.out ⟨g2, 0, none⟩ L.length c2 (endsV L) rfl (by simp [endsV]) HC.out (ends_one L) (by omega) (by omega) hsz ?_; intro v1 w1 hown1 hgrow1; obtain ⟨h2, d2, rfl⟩ := own_some hown1 (by omega); have hg1 : X.grownBy w1 (some V.heap.size) := (by rw [HX.out]; exact hgrow1); obtain ⟨z1, z2, z3⟩ := set14b HFX.out hown1 hg1 pT2 (fun h => by have := HFX.out.block_lt _ (.inr (.inl h)); have := hFV.block_lt _ (.inr (.inl h)); omega) (by simp) (by simp) rfl rfl; have y14 : w1.cell? ⟨T, 14, none⟩ = some (.slice (some ⟨g2, 0, none⟩) L.length c2) := (by rw [cell_t z1]; rfl); have f14 : w1.frozen? ⟨T, 14, none⟩ = false := free_t z1 14; have HZ2 : Hid _ := z2; have HZ3 : Hid _ := z3; clear z1 z2 z3 hown1 hgrow1 hg1)
    all_goals
      rw [Nat.zero_add] at HZ2 HZ3
      obtain ⟨V1, hW1⟩ : ∃ Z, Z = w1.setCell ⟨T, 14, none⟩ (.slice (some ⟨h2, 0, none⟩) L.length d2) := ⟨_, rfl⟩
      rw [← hW1] at HZ2 HZ3 ⊢
      have KX1 : Kept (fun k => k = T ∨ k = V.heap.size) V V1 := (⟨HKX.out.os, HKX.out.tape, HKX.out.output, HKX.out.size, fun i hi _ => HKX.out.block i hi (fun x => x)⟩ : Kept (fun k => k = T ∨ k = V.heap.size) V X).trans HZ3.out (fun _ _ h => h)
      have hFV1 := HZ2.out
      clear hW1 y14 f14 hmk u14'
      have K2 : Kept (In T (.slice (some ⟨g1, 0, none⟩) L.length c1) (.slice (some ⟨g2, 0, none⟩) L.length c2)) w V1 := KV.out.trans KX1 (fun n hn h => by rcases h with h | h; exact .inl h; exact absurd h (by have := KV.out.size; omega))
      have HFL : Hid _ := hFV1
      clear hFV1 hFV
      go_wp2
      go_returns
      exact ⟨rfl, ⟨_, _, HFL.out⟩, K2⟩

set_option maxRecDepth 100000 in
set_option maxHeartbeats 1000000 in
theorem trim_no (base T g1 g2 : Nat) (s l : Int) (L : Runs) (w : World) (hbT : base ≤ w.heap.size) (hF : Fing w base T s l (.slice (some ⟨g1, 0, none⟩) L.length L.length) (.slice (some ⟨g2, 0, none⟩) L.length L.length) L) :
    Calls Yba.prog 30 #[.pointer (some ⟨T, 13, none⟩)] w fun e w' => e = .returned (.tuple #[]) ∧ ∃ nv' ev', Fing w' base T s l nv' ev' L ∧ Kept (In T (.slice (some ⟨g1, 0, none⟩) L.length L.length) (.slice (some ⟨g2, 0, none⟩) L.length L.length)) w w' := by
  have t13 : w.cell? ⟨T, 13, none⟩ = some (.slice (some ⟨g1, 0, none⟩) L.length L.length) := by rw [cell_t hF.t]; rfl
  have t14 : w.cell? ⟨T, 14, none⟩ = some (.slice (some ⟨g2, 0, none⟩) L.length L.length) := by rw [cell_t hF.t]; rfl
  have HF : Hid (Fing w base T s l (.slice (some ⟨g1, 0, none⟩) L.length L.length) (.slice (some ⟨g2, 0, none⟩) L.length L.length) L) := hF
  clear hF
  go_enter Yba.func30, Yba.ntmps30
  go_wp2
  go_quiet (fail)
  go_wp2
  obtain ⟨W, hW⟩ : ∃ W, W = w.drewN nq := ⟨_, rfl⟩
  rw [← hW]
  have hFW : Fing W base T s l (.slice (some ⟨g1, 0, none⟩) L.length L.length) (.slice (some ⟨g2, 0, none⟩) L.length L.length) L := by rw [hW]; exact HF.out.drewN _
  have hbW : base ≤ W.heap.size := by rw [hW]; exact hbT
  have KW : Hid (Kept (In T (.slice (some ⟨g1, 0, none⟩) L.length L.length) (.slice (some ⟨g2, 0, none⟩) L.length L.length)) w W) := by rw [hW]; exact (Kept.refl _ w).drewN
  clear hW
  have u14 : W.cell? ⟨T, 14, none⟩ = some (.slice (some ⟨g2, 0, none⟩) L.length L.length) := by rw [cell_t hFW.t]; rfl
  have HFX' : Hid (Fing W base T s l (.slice (some ⟨g1, 0, none⟩) L.length L.length) (.slice (some ⟨g2, 0, none⟩) L.length L.length) L) := hFW
  clear hFW
  go_wp2
  go_quiet (fail)
  go_wp2
  go_returns
  exact ⟨rfl, _, _, HFX'.out.drewN _, KW.out.drewN⟩
end Go.Proofs.Ybulkcmvc
