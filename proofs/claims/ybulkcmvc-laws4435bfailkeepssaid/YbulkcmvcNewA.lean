import Derived.Test.YbulkcmvcRefA
import Derived.WalkKit
import Derived.WalkSpells
import Derived.BigRegion
import Derived.BigQuiet
import Derived.Deep.QuietTactic
import Derived.Deep.RegionWith
import Derived.Handy
namespace Go.Proofs.Ybulkcmvc
open Go.RowKit
theorem heap_alloc_old {w : World} {o o' : Obj} {k : Nat} (h : w.heap[k]? = some o) : (w.alloc o').heap[k]? = some o := alloc_t h
theorem heap_alloc_new (w : World) (o : Obj) : (w.alloc o).heap[w.heap.size]? = some o := Array.getElem?_push_size
theorem heap_alloc_at {w : World} {o : Obj} {n : Nat} (h : w.heap.size = n) : (w.alloc o).heap[n]? = some o := by subst h; exact heap_alloc_new w o
set_option maxRecDepth 100000 in
set_option maxHeartbeats 4000000 in
theorem fruns_walk (w : World) :
    Calls Yba.prog 22 #[.int .i64 8] w fun e w' => e = .returned (.agg #[.slice (some ⟨w.heap.size + 1, 0, none⟩) 1 1, .slice (some ⟨w.heap.size + 1 + 1, 0, none⟩) 1 1]) ∧ w'.heap[w.heap.size + 1]? = some (.cells #[.int .u64 0, .int .u64 0, .int .u64 0, .int .u8 0, .string ⟨#[]⟩, .string ⟨#[]⟩] 38 (0, 0)) ∧ w'.heap[w.heap.size + 1 + 1]? = some (.cells #[.int .u8 8] 5 (0, 0)) ∧ Below w.heap.size w w' := by
  go_enter Yba.func22, Yba.ntmps22
  go_wp2
  refine bodyPost_ret (v := .agg #[.slice (some ⟨w.heap.size + 1, 0, none⟩) 1 1, .slice (some ⟨w.heap.size + 1 + 1, 0, none⟩) 1 1]) (by simp [results, Yba.results22, go_sem]) rfl ?_
  refine ⟨rfl, ?_, ?_, by go_grown⟩
  · refine heap_alloc_old ?_
    exact heap_alloc_at (by simp)
  · exact heap_alloc_at (by simp)
end Go.Proofs.Ybulkcmvc
