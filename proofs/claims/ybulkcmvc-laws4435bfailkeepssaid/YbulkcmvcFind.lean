import Derived.Test.YbulkcmvcFindB
import Derived.Test.YbulkcmvcFindC
import Derived.WalkKit
import Derived.WalkSpells
import Derived.BigRegion
import Derived.BigQuiet
import Derived.Deep.QuietTactic
import Derived.Deep.RegionHeld3
import Derived.Deep.RegionWith
import Derived.Deep.CutRange
import Derived.Handy
namespace Go.Proofs.Ybulkcmvc
open Go.RowKit
/-- the ring in memory, whatever it has counted. -/
def RingEx (w : World) (r : Nat) (h : Has) (fl : Bool) : Prop := ∃ fd pd, Ring w r h fl fd pd
theorem find_ok (base T r s i : Nat) (h : Has) (full : Bool) (ctx : Value) (hs : s < 256) (hh : h s = true) (hi : i < 8) (w : World) (hT : TT w base T s 0 h full i) (hR : RingEx w r h false) :
    Calls Yba.prog 27 #[.pointer (some ⟨T, 0, none⟩), ctx, .iface 47 (.pointer (some ⟨r, 0, none⟩)), .int .i64 i] w fun e w' => e = .returned (.tuple #[peerV (F h s i), .nilIface]) ∧ TT w' base T s 0 h full i ∧ RingEx w' r h false ∧ Kept (Tr T r) w w' := by
  obtain ⟨fd, pd, hR⟩ := hR
  have hRF : RF r h false ctx ((s + 2 ^ i) % 256) (fun x y er => x = F h s i ∧ y = 8 ∧ er = .nilIface) := by
    intro X fd pd hX
    refine (rfind_walk r h fd pd ctx _ (Nat.mod_lt _ (by decide)) X hX).mono ?_
    rintro e w' ⟨rfl, hk, hr⟩
    exact ⟨⟨_, _, _, ⟨rfl, rfl, rfl⟩, rfl⟩, hk, hr⟩
  have fin : ∀ q : Option Nat, (∀ p, q = some p → p = F h s i) → Calls Yba.prog 27 #[.pointer (some ⟨T, 0, none⟩), ctx, .iface 47 (.pointer (some ⟨r, 0, none⟩)), .int .i64 i] w (fun e w' => FD w base T r s i h full false (fun x y er => x = F h s i ∧ y = 8 ∧ er = .nilIface) q fd pd e w') →
      Calls Yba.prog 27 #[.pointer (some ⟨T, 0, none⟩), ctx, .iface 47 (.pointer (some ⟨r, 0, none⟩)), .int .i64 i] w fun e w' => e = .returned (.tuple #[peerV (F h s i), .nilIface]) ∧ TT w' base T s 0 h full i ∧ RingEx w' r h false ∧ Kept (Tr T r) w w' := by
    intro q hq hc
    refine Calls.mono hc ?_
    rintro e w' ⟨⟨x, y, er, hp, he⟩, hT, ⟨fd', pd', hr, _⟩, hk⟩
    refine ⟨?_, hT, ⟨fd', pd', hr⟩, hk⟩
    rcases hp with ⟨rfl, rfl, rfl⟩ | ⟨p, rfl, rfl, rfl, rfl⟩
    · exact he
    · rw [he, hq p rfl]
  have hat := fun L (hL : Tb h s full i L) => Tb.at hs hh hi hL
  cases full with
  | false => exact fin none (fun p h => by cases h) (find_none base T r s i i h false false fd pd ctx _ hs hi w hT hat hR hRF)
  | true =>
    have hp : F h s i < 256 := nxt_lt _ _
    by_cases hps : F h s i = s
    · exact fin (some (F h s i)) (fun p h => by injection h with h; exact h.symm) (find_same base T r s i i (F h s i) h true false fd pd ctx _ hs hi hps w hT hat hR hRF)
    · exact fin (some (F h s i)) (fun p h => by injection h with h; exact h.symm) (find_diff base T r s i i (F h s i) h true false fd pd ctx _ hs hi hp hps w hT hat hR hRF)
theorem find_down (base T r s i c : Nat) (h : Has) (fd pd : Int) (ctx : Value) (hs : s < 256) (hh : h s = true) (hi : i < 8) (hc : c ≤ i) (w : World) (hT : TT w base T s 0 h false c) (hR : Ring w r h true fd pd) :
    Calls Yba.prog 27 #[.pointer (some ⟨T, 0, none⟩), ctx, .iface 47 (.pointer (some ⟨r, 0, none⟩)), .int .i64 i] w fun e w' => (∃ b, e = .returned (.tuple #[zeroPeer, .iface 165 (.pointer (some ⟨b, 0, none⟩))])) ∧ TT w' base T s 0 h false c ∧ Ring w' r h true (wrap64 (fd + 1)) pd ∧ Kept (Tr T r) w w' := by
  have hRF : RF r h true ctx ((s + 2 ^ i) % 256) (fun x y er => x = 0 ∧ y = 0 ∧ ∃ b, er = .iface 165 (.pointer (some ⟨b, 0, none⟩))) := by
    intro X fd pd hX
    refine (rfind_down r h fd pd ctx _ X hX).mono ?_
    rintro e w' ⟨b, rfl, hk, hr⟩
    exact ⟨⟨_, _, _, ⟨rfl, rfl, b, rfl⟩, rfl⟩, hk, hr⟩
  refine Calls.mono (find_none base T r s i c h false true fd pd ctx _ hs hi w hT (fun L hL => Tb.at_none hs hh hi hc hL) hR hRF) ?_
  rintro e w' ⟨⟨x, y, er, hp, he⟩, hT, ⟨fd', pd', hr, hq⟩, hk⟩
  obtain ⟨rfl, rfl⟩ := hq rfl
  refine ⟨?_, hT, hr, hk⟩
  rcases hp with ⟨rfl, rfl, b, rfl⟩ | ⟨p, h, _⟩
  · exact ⟨b, he⟩
  · cases h
theorem Kept.ofTr {base T r : Nat} {w w' : World} (h : Kept (Tr T r) w w') (h1 : base ≤ T) (h2 : base ≤ r) : Kept (base ≤ ·) w w' := ⟨h.os, h.tape, h.output, h.size, fun k a b => h.block k a (fun e => by rcases e with rfl | rfl <;> exact b (by assumption))⟩
theorem RingEx.keep {base r : Nat} {w w' : World} {h : Has} {fl : Bool} (x : RingEx w r h fl) (k : Keep base w w') : RingEx w' r h fl := by
  obtain ⟨fd, pd, g⟩ := x
  exact ⟨fd, pd, k.2.1 _ _ _ _ _ g⟩
theorem TT.base {w : World} {base T s : Nat} {l : Int} {h : Has} {full : Bool} {i : Nat} (t : TT w base T s l h full i) : base ≤ T := by
  obtain ⟨L, a, b⟩ := t
  exact a.1
abbrev bgV : Value := .iface 95 (.agg #[])
theorem background_walk (w : World) : Calls Yba.prog 14 #[] w fun e w' => e = .returned bgV ∧ w' = w := by
  go_enter Yba.func14, Yba.ntmps14
  go_wp2
  go_returns
  exact ⟨rfl, rfl⟩

theorem err_try (w : World) : Calls Yba.prog 113 #[.agg #[]] w fun e w' => e = .returned .nilIface ∧ Below w.heap.size w w' := by
  go_enter Yba.func113, Yba.ntmps113
  go_wp2
  go_ret
  exact ⟨rfl, by go_grown⟩
end Go.Proofs.Ybulkcmvc
