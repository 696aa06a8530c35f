import Derived.Test.YbulkcmvcBits
import Derived.WalkKit
import Derived.WalkSpells
import Derived.Laws.StructEq
import Derived.BigQuiet
import Derived.Deep.QuietTactic
import Derived.Handy
namespace Go.Proofs.Ybulkcmvc
open Go.RowKit
theorem eq23 (d : Nat) (a b c a' b' c' : Int) (w : World) : (Op.equalIn (d + 2) 23 (.agg #[.int .u64 a, .int .u64 b, .int .u64 c]) (.agg #[.int .u64 a', .int .u64 b', .int .u64 c'])).run Yba.prog w = .ok (a == a' && b == b' && c == c') w := by
  have u3 := Yba.underlying22
  have a3 := Yba.isAgg22
  have z3 := Yba.sizeOf22
  rw [Op.equalIn]
  simp only [Sem.run_bind, run_underlying Yba.underlying23, Result.andThen_ok]
  simp only [Std.Legacy.Range.forIn_eq_forIn_range', Std.Legacy.Range.size, Nat.sub_zero, Nat.add_sub_cancel, Nat.div_one, List.range'_succ, List.range'_zero, List.forIn_cons, List.forIn_nil]
  go_simp
  by_cases h1 : a = a' <;> by_cases h2 : b = b' <;> by_cases h3 : c = c' <;> simp [h1, h2, h3]
theorem eq36 (d : Nat) (a b c n a' b' c' n' : Int) (w : World) : (Op.equalIn (d + 3) 36 (.agg #[.int .u64 a, .int .u64 b, .int .u64 c, .int .u8 n]) (.agg #[.int .u64 a', .int .u64 b', .int .u64 c', .int .u8 n'])).run Yba.prog w = .ok (a == a' && b == b' && c == c' && n == n') w := by
  rw [run_equalIn_struct w (d + 2) 36 _ _ (by kernel_rfl) (by kernel_rfl)]
  have e := eq23 d a b c a' b' c' w
  rw [show Yba.prog.fieldsOf 36 = _ from by unfold Program.fieldsOf; rw [Yba.underlying36]]
  go_simp
  by_cases h1 : a = a' <;> by_cases h2 : b = b' <;> by_cases h3 : c = c' <;> by_cases h4 : n = n' <;> simp [h1, h2, h3, h4]
theorem eq38 (d : Nat) (a b c n a' b' c' n' : Int) (s t s' t' : ByteArray) (w : World) : (Op.equalIn (d + 4) 38 (.agg #[.int .u64 a, .int .u64 b, .int .u64 c, .int .u8 n, .string s, .string t]) (.agg #[.int .u64 a', .int .u64 b', .int .u64 c', .int .u8 n', .string s', .string t'])).run Yba.prog w =
    .ok (a == a' && b == b' && c == c' && n == n' && s.toList == s'.toList && t.toList == t'.toList) w := by
  rw [run_equalIn_struct w (d + 3) 38 _ _ (by kernel_rfl) (by kernel_rfl)]
  have e := eq23 d a b c a' b' c' w
  rw [show Yba.prog.fieldsOf 38 = _ from by unfold Program.fieldsOf; rw [Yba.underlying38]]
  go_simp
  by_cases h1 : a = a' <;> by_cases h2 : b = b' <;> by_cases h3 : c = c' <;> by_cases h4 : n = n' <;> by_cases h5 : s.toList = s'.toList <;> by_cases h6 : t.toList = t'.toList <;> simp [h1, h2, h3, h4, h5, h6]

abbrev idV (v : Int) : Value := .agg #[.int .u64 0, .int .u64 0, .int .u64 v, .int .u8 8]
abbrev peerV (v : Int) : Value := .agg #[.int .u64 0, .int .u64 0, .int .u64 v, .int .u8 8, .string ⟨#[]⟩, .string ⟨#[]⟩]
abbrev zeroPeer : Value := .agg #[.int .u64 0, .int .u64 0, .int .u64 0, .int .u8 0, .string ⟨#[]⟩, .string ⟨#[]⟩]
/-- '==' on ids and peers, in the walk's form. -/
theorem eqid (v v' : Int) (w : World) : (Op.equalIn 10000 36 (idV v) (idV v')).run Yba.prog w = .ok (v == v') w := by
  rw [show (10000 : Nat) = 9997 + 3 from rfl, eq36]; simp
theorem eqpeer (v v' : Int) (w : World) : (Op.equalIn 10000 38 (peerV v) (peerV v')).run Yba.prog w = .ok (v == v') w := by
  rw [show (10000 : Nat) = 9996 + 4 from rfl, eq38]; simp
theorem eqpz (v : Int) (w : World) : (Op.equalIn 10000 38 (peerV v) zeroPeer).run Yba.prog w = .ok false w := by
  rw [show (10000 : Nat) = 9996 + 4 from rfl, eq38]; simp
theorem eqzp (v : Int) (w : World) : (Op.equalIn 10000 38 zeroPeer (peerV v)).run Yba.prog w = .ok false w := by
  rw [show (10000 : Nat) = 9996 + 4 from rfl, eq38]; simp
theorem eqzz (w : World) : (Op.equalIn 10000 38 zeroPeer zeroPeer).run Yba.prog w = .ok true w := by
  rw [show (10000 : Nat) = 9996 + 4 from rfl, eq38]; simp
theorem eqshift (w : World) : (Op.equalIn 10000 23 (.agg #[.int .u64 0, .int .u64 0, .int .u64 0]) (.agg #[.int .u64 0, .int .u64 0, .int .u64 0])).run Yba.prog w = .ok true w := by
  rw [show (10000 : Nat) = 9998 + 2 from rfl, eq23]; simp

theorem bits_walk (v : Int) (w : World) : Calls Yba.prog 23 #[idV v] w fun e w' => e = .returned (.int .i64 8) ∧ Below w.heap.size w w' := by
  go_enter Yba.func23, Yba.ntmps23
  go_wp2
  go_ret
  exact ⟨rfl, by go_grown⟩

theorem bpeer_walk (v : Int) (w : World) (h0 : 0 ≤ v) (h1 : v < 256) : Calls Yba.prog 11 #[.int .u8 v] w fun e w' => e = .returned (peerV v) ∧ Below w.heap.size w w' := by
  go_enter Yba.func11, Yba.ntmps11
  go_wp2
  go_returns
  exact ⟨rfl, by go_grown⟩

theorem iszero_peer (v : Int) (w : World) : Calls Yba.prog 37 #[peerV v] w fun e w' => e = .returned (.bool false) ∧ Below w.heap.size w w' := by
  have e := eqpz v
  go_enter Yba.func37, Yba.ntmps37
  go_wp2
  go_ret
  exact ⟨rfl, by go_grown⟩
theorem iszero_zero (w : World) : Calls Yba.prog 37 #[zeroPeer] w fun e w' => e = .returned (.bool true) ∧ Below w.heap.size w w' := by
  have e := eqzz
  go_enter Yba.func37, Yba.ntmps37
  go_wp2
  go_ret
  exact ⟨rfl, by go_grown⟩
theorem mask8 (c : Int) (h0 : 0 ≤ c) (h1 : c < 18446744073709551616) : bits .and .u64 c 255 = c % 256 := by
  obtain ⟨a, rfl⟩ := Int.eq_ofNat_of_zero_le h0
  have h := bits_and_u64_nat a 255 (by omega) (by omega)
  have e : a &&& 255 = a % 256 := Nat.and_two_pow_sub_one_eq_mod a 8
  rw [e] at h
  exact h
set_option maxHeartbeats 1000000 in
theorem masked_walk (a b c : Int) (w : World) (h0 : 0 ≤ c) (h1 : c < 18446744073709551616) : Calls Yba.prog 76 #[.agg #[.int .u64 a, .int .u64 b, .int .u64 c, .int .u8 8]] w fun e w' => e = .returned (idV (c % 256)) ∧ Below w.heap.size w w' := by
  go_enter Yba.func76, Yba.ntmps76
  go_wp2
  go_rounds 4
  go_region
  all_goals go_wp2
  all_goals rw [rounds_succ]
  all_goals go_wp2
  all_goals go_returns
  all_goals rw [mask8 c h0 h1]
  all_goals exact ⟨rfl, by go_grown⟩
end Go.Proofs.Ybulkcmvc
