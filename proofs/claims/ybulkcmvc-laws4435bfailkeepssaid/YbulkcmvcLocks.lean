/-
  The numbers under which this dump holds sync.Mutex's functions and types, and that it holds them (Derived/Conc/MuLib.lean): typed after the guide's StatsLocks.lean.
  The lock of the finger table: locked and unlocked.
-/
import Derived.Test.YbulkcmvcFillM
import Derived.Conc.MuLone
import Derived.KernelRfl
namespace Go.Proofs
abbrev Yba.muLink : Go.Conc.Locks.MuLink := { lock := 24, unlock := 26, ilock := 32, iunlock := 35, lockSlow := 49, unlockSlow := 56, disable := 45, enable := 47, acquire := 48, relMerge := 54, cas32 := 46, add32 := 55, tMutex := 64, tIMutex := 62, tPMutex := 97, tPIMutex := 113, tPI32 := 115, tUP := 117, tNoCopy := 59, tU32 := 60 }
theorem Yba.muLib : Go.Conc.Locks.MuLib Yba.prog Yba.muLink :=
  ⟨Yba.func24, Yba.func26, Yba.func32, Yba.func35, Yba.func45, Yba.func47, Yba.func48, Yba.func54, Yba.func46, Yba.func55, Yba.underlying62, Yba.runUnderlying62, Yba.sizeOf62, Yba.isAgg62, Yba.zeroValue62, Yba.underlying64, Yba.runUnderlying64, Yba.sizeOf64, Yba.isAgg64, Yba.zeroValue64, Yba.underlying97, Yba.runUnderlying97, Yba.sizeOf97, Yba.isAgg97, Yba.zeroValue97, Yba.underlying113, Yba.runUnderlying113, Yba.sizeOf113, Yba.isAgg113, Yba.zeroValue113, Yba.underlying115, Yba.runUnderlying115, Yba.sizeOf115, Yba.isAgg115, Yba.zeroValue115, Yba.underlying117, Yba.runUnderlying117, Yba.sizeOf117, Yba.isAgg117, Yba.zeroValue117, Yba.underlying59, Yba.runUnderlying59, Yba.sizeOf59, Yba.isAgg59, Yba.zeroValue59, Yba.underlying21, Yba.runUnderlying21, Yba.sizeOf21, Yba.isAgg21, Yba.zeroValue21, (by kernel_rfl)⟩
namespace Ybulkcmvc
open Go.RowKit Go.MuLone
/-- the table's lock, taken or let go. -/
theorem Fing.lock {w : World} {base T : Nat} {s l : Int} {nv ev : Value} {L : Runs} (h : Fing w base T s l nv ev L) (x : Int) : Fing (w.setCell ⟨T, 11, none⟩ (.int .i32 x)) base T s x nv ev L :=
  ⟨by rw [heap_set h.t]; rfl, own_set h.nodes _ (own_ne h.nodes h.t (by decide)), own_set h.ends _ (own_ne h.ends h.t (by decide))⟩
theorem lock_t (T base : Nat) (s : Int) (nv ev : Value) (L : Runs) (w : World) (h : Fing w base T s 0 nv ev L) :
    Calls Yba.prog 24 #[.pointer (some ⟨T, 11, none⟩)] w fun e w' => e = .returned (.tuple #[]) ∧ Fing w' base T s 1 nv ev L ∧ Kept (· = T) w w' := by
  refine (lock_free Yba.muLib ⟨T, 11, none⟩ _ (by rw [cell_t h.t]; rfl) (free_t h.t 11)).mono ?_
  rintro e w' ⟨rfl, rfl⟩
  exact ⟨rfl, h.lock 1, (Kept.refl (· = T) w).setCell (p := ⟨T, 11, none⟩) (fun _ => rfl) _⟩
theorem unlock_t (T base : Nat) (s : Int) (nv ev : Value) (L : Runs) (w : World) (h : Fing w base T s 1 nv ev L) :
    Calls Yba.prog 26 #[.pointer (some ⟨T, 11, none⟩)] w fun e w' => e = .returned (.tuple #[]) ∧ Fing w' base T s 0 nv ev L ∧ Kept (· = T) w w' := by
  refine (unlock_held Yba.muLib ⟨T, 11, none⟩ _ (by rw [cell_t h.t]; rfl) (free_t h.t 11)).mono ?_
  rintro e w' ⟨rfl, rfl⟩
  exact ⟨rfl, h.lock 0, (Kept.refl (· = T) w).setCell (p := ⟨T, 11, none⟩) (fun _ => rfl) _⟩
end Ybulkcmvc
end Go.Proofs
