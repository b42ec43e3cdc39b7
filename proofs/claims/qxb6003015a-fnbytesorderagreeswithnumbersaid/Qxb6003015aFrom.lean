import Derived.Test.Qxb6003015aRows
import Derived.WalkKit
import Derived.WalkSpells
import Derived.StillTactics
import Derived.Laws.Pointers
import Derived.RowKit3
import Derived.Outline
import Derived.Deep.RegionHeld3
import Derived.Deep.QuietTactic
import Derived.BigQuiet
namespace Go.Proofs.Qxb6003015a
open Go.RowKit

theorem ret_int {k : IntKind} {a b : Int} (h : a = b) : Ending.returned (.int k a) = .returned (.int k b) := by rw [h]

theorem step8 (x c : Int) (h0 : 0 ≤ x) (h1 : x < 72057594037927936) (h2 : 0 ≤ c) (h3 : c < 256) : bits .or .u64 (IntKind.u64.wrap (x * 256)) c = x * 256 + c := by
  rw [IntKind.wrap_u64, Int.emod_eq_of_lt (by omega) (by omega), u64_or _ _ (by omega) (by omega) (by omega) (by omega), Nat.or_comm, nat_join8' _ _ (by omega) (by omega)]
  omega

theorem step8z (c : Int) (h2 : 0 ≤ c) (h3 : c < 256) : bits .or .u64 0 c = c := by
  rw [u64_or _ _ (by omega) (by omega) (by omega) (by omega)]; simp; omega

/-- Six bytes as a value. -/
abbrev six (b0 b1 b2 b3 b4 b5 : Int) : Array Value := #[.int .u8 b0, .int .u8 b1, .int .u8 b2, .int .u8 b3, .int .u8 b4, .int .u8 b5]

set_option maxRecDepth 100000 in
set_option maxHeartbeats 1000000 in
theorem from_any (b0 b1 b2 b3 b4 b5 : Int) (h0 : 0 ≤ b0 ∧ b0 ≤ 255) (h1 : 0 ≤ b1 ∧ b1 ≤ 255) (h2 : 0 ≤ b2 ∧ b2 ≤ 255) (h3 : 0 ≤ b3 ∧ b3 ≤ 255) (h4 : 0 ≤ b4 ∧ b4 ≤ 255) (h5 : 0 ≤ b5 ∧ b5 ≤ 255) (w : World) :
    Calls Try.prog 7 #[.agg #[.int .u8 b0, .int .u8 b1, .int .u8 b2, .int .u8 b3, .int .u8 b4, .int .u8 b5]] w fun e w' =>
      e = .returned (.int .u64 (((((b0 * 256 + b1) * 256 + b2) * 256 + b3) * 256 + b4) * 256 + b5)) ∧ w' = w.alloc (.cells #[.int .u8 b0, .int .u8 b1, .int .u8 b2, .int .u8 b3, .int .u8 b4, .int .u8 b5] 22) := by
  have i0 : ∀ w : World, (Instr.index 22 (.agg #[.int .u8 b0, .int .u8 b1, .int .u8 b2, .int .u8 b3, .int .u8 b4, .int .u8 b5]) (.int .i64 0)).run Try.prog w = .ok (.int .u8 b0) w := fun _ => by kernel_rfl
  have i1 : ∀ w : World, (Instr.index 22 (.agg #[.int .u8 b0, .int .u8 b1, .int .u8 b2, .int .u8 b3, .int .u8 b4, .int .u8 b5]) (.int .i64 1)).run Try.prog w = .ok (.int .u8 b1) w := fun _ => by kernel_rfl
  have i2 : ∀ w : World, (Instr.index 22 (.agg #[.int .u8 b0, .int .u8 b1, .int .u8 b2, .int .u8 b3, .int .u8 b4, .int .u8 b5]) (.int .i64 2)).run Try.prog w = .ok (.int .u8 b2) w := fun _ => by kernel_rfl
  have i3 : ∀ w : World, (Instr.index 22 (.agg #[.int .u8 b0, .int .u8 b1, .int .u8 b2, .int .u8 b3, .int .u8 b4, .int .u8 b5]) (.int .i64 3)).run Try.prog w = .ok (.int .u8 b3) w := fun _ => by kernel_rfl
  have i4 : ∀ w : World, (Instr.index 22 (.agg #[.int .u8 b0, .int .u8 b1, .int .u8 b2, .int .u8 b3, .int .u8 b4, .int .u8 b5]) (.int .i64 4)).run Try.prog w = .ok (.int .u8 b4) w := fun _ => by kernel_rfl
  have i5 : ∀ w : World, (Instr.index 22 (.agg #[.int .u8 b0, .int .u8 b1, .int .u8 b2, .int .u8 b3, .int .u8 b4, .int .u8 b5]) (.int .i64 5)).run Try.prog w = .ok (.int .u8 b5) w := fun _ => by kernel_rfl
  go_enter Try.func7, Try.ntmps7
  go_wp2
  refine wp_loop_rounds 7 ?_
  rw [rounds_succ]; go_wp2
  rw [rounds_succ]; go_wp2
  rw [rounds_succ]; go_wp2
  rw [rounds_succ]; go_wp2
  rw [rounds_succ]; go_wp2
  rw [rounds_succ]; go_wp2
  rw [rounds_succ]; go_wp2
  go_ret
  refine ⟨ret_int ?_, rfl⟩
  rw [step8z _ (by omega) (by omega), step8 b0 b1 (by omega) (by omega) (by omega) (by omega), step8 _ b2 (by omega) (by omega) (by omega) (by omega), step8 _ b3 (by omega) (by omega) (by omega) (by omega), step8 _ b4 (by omega) (by omega) (by omega) (by omega), step8 _ b5 (by omega) (by omega) (by omega) (by omega)]

set_option maxRecDepth 100000 in
set_option maxHeartbeats 1000000 in
theorem bytes_any (s : Int) (_h0 : 0 ≤ s) (_h1 : s < 18446744073709551616) (w : World) :
    Calls Try.prog 8 #[.int .u64 s] w fun e w' =>
      e = .returned (.agg #[.int .u8 (s / 1099511627776 % 256), .int .u8 (s / 4294967296 % 256), .int .u8 (s / 16777216 % 256), .int .u8 (s / 65536 % 256), .int .u8 (s / 256 % 256), .int .u8 (s % 256)]) ∧ ∃ c1 c2 : Array Value, w' = (w.alloc (.cells c1 22)).alloc (.cells c2 22) := by
  go_enter Try.func8, Try.ntmps8
  go_wp2
  refine wp_loop_rounds 7 ?_
  rw [rounds_succ]; go_wp2
  rw [rounds_succ]; go_wp2
  rw [rounds_succ]; go_wp2
  rw [rounds_succ]; go_wp2
  rw [rounds_succ]; go_wp2
  rw [rounds_succ]; go_wp2
  rw [rounds_succ]; go_wp2
  simp [bodyPost, results, Try.results8, go_sem]
  exact ⟨_, _, rfl⟩

set_option maxRecDepth 100000 in
set_option maxHeartbeats 1000000 in
theorem byDiv_any (s : Int) (_h0 : 0 ≤ s) (_h1 : s < 18446744073709551616) (w : World) :
    Calls Try.prog 9 #[.int .u64 s, .agg #[.int .u8 (s / 1099511627776 % 256), .int .u8 (s / 4294967296 % 256), .int .u8 (s / 16777216 % 256), .int .u8 (s / 65536 % 256), .int .u8 (s / 256 % 256), .int .u8 (s % 256)]] w fun e w' =>
      e = .returned (.bool true) ∧ ∃ (c1 : Array Value) (n : Nat), w' = (w.alloc (.cells c1 22)).drewN n := by
  go_enter Try.func9, Try.ntmps9
  go_wp2
  refine wp_loop_rounds 7 ?_
  rw [rounds_succ]; go_wp2; go_quiet (fail); go_wp2
  rw [rounds_succ]; go_wp2; go_quiet (fail); go_wp2
  rw [rounds_succ]; go_wp2; go_quiet (fail); go_wp2
  rw [rounds_succ]; go_wp2; go_quiet (fail); go_wp2
  rw [rounds_succ]; go_wp2; go_quiet (fail); go_wp2
  rw [rounds_succ]; go_wp2; go_quiet (fail); go_wp2
  rw [rounds_succ]; go_wp2
  go_ret
  exact ⟨rfl, _, _, rfl⟩
theorem grown_drewN {W w' : World} (h : Grown W w') (n : Nat) : Grown W (w'.drewN n) := h

/-- The six bytes of s, read as a number. -/
theorem pos_of (a : Int) : ((((a / 1099511627776 % 256 * 256 + a / 4294967296 % 256) * 256 + a / 16777216 % 256) * 256 + a / 65536 % 256) * 256 + a / 256 % 256) * 256 + a % 256 = a % 281474976710656 := by
  omega
end Go.Proofs.Qxb6003015a
