import Derived.Test.Qxb6003015aRows
import Derived.WalkKit
import Derived.WalkSpells
import Derived.StillTactics
import Derived.Laws.Pointers
import Derived.RowKit3
import Derived.Outline
import Derived.Deep.OwnRows
namespace Go.Proofs.Qxb6003015a
open Go.RowKit

theorem info3 : (Try.prog.info? 3).map (fun i => (i.zero, i.size, i.bytes)) = some (some (.int .i64 0), 1, 8) := by kernel_rfl

theorem ret_int' {k : IntKind} {a b : Int} (h : a = b) : Ending.returned (.int k a) = .returned (.int k b) := by rw [h]

/-- The bound that a program laid: at most 2^20 elements. -/
theorem zz_yes (s : Int) (a : Option Addr) (len cap : Nat) (h : len ≤ 1048576) (w : World) :
    Calls Try.prog 10 #[.int .u64 s, .slice a len cap] w fun e w' => e = .returned (.bool true) ∧ w' = w := by
  have h1 : (len : Int) ≤ 1048576 := by omega
  go_enter Try.func10, Try.ntmps10
  go_wp2
  go_ret
  exact ⟨rfl, rfl⟩
theorem zz_no (s : Int) (a : Option Addr) (len cap : Nat) (h : 1048576 < len) (w : World) :
    Calls Try.prog 10 #[.int .u64 s, .slice a len cap] w fun e w' => e = .returned (.bool false) ∧ w' = w := by
  have h1 : (1048576 : Int) < len := by omega
  go_enter Try.func10, Try.ntmps10
  go_wp2
  go_ret
  exact ⟨rfl, rfl⟩

theorem seq_any (s : Int) (_h0 : 0 ≤ s) (_h1 : s < 281474976710656) (w : World) :
    Calls Try.prog 12 #[.int .u64 s] w fun e w' => e = .returned (.int .u64 (s / 32)) ∧ w' = w := by
  go_enter Try.func12, Try.ntmps12
  go_wp2
  go_ret
  exact ⟨rfl, rfl⟩

theorem join5 (x c : Int) (h0 : 0 ≤ x) (h1 : x < 8796093022208) (h2 : 0 ≤ c) (h3 : c < 32) : bits .or .u64 (x * 32) c = x * 32 + c := by
  rw [u64_or _ _ (by omega) (by omega) (by omega) (by omega), Nat.or_comm, nat_join5' _ _ (by omega) (by omega)]
  omega

/-- SQN.Next refuses: SEQ has reached its end. -/
theorem next_no (s d : Int) (h0 : 281474976710624 ≤ s) (h1 : s < 281474976710656) (d0 : 0 ≤ d) (d1 : d ≤ 31) (w : World) :
    Calls Try.prog 11 #[.int .u64 s, .int .i64 d] w fun e w' => e = .returned (.tuple #[.int .u64 0, .bool false]) ∧ w' = w := by
  have hq : s / 32 = 8796093022207 := by omega
  have hb : (s / 32 == 8796093022207) = true := by simp [hq]
  clear hq
  go_enter Try.func11, Try.ntmps11
  go_wp2_with (go_at_call 12; refine (seq_any _ (by omega) (by omega) _).mono ?_; rintro e w' ⟨rfl, rfl⟩)
  go_ret2
  exact ⟨rfl, rfl⟩

theorem next_yes (s d : Int) (h0 : 0 ≤ s) (h1 : s < 281474976710624) (d0 : 0 ≤ d) (d1 : d ≤ 31) (w : World) :
    Calls Try.prog 11 #[.int .u64 s, .int .i64 d] w fun e w' => e = .returned (.tuple #[.int .u64 ((s / 32 + 1) * 32 + d), .bool true]) ∧ w' = w := by
  have hb : (s / 32 == 8796093022207) = false := by simp; omega
  have hj := join5 (s / 32 + 1) d (by omega) (by omega) d0 (by omega)
  go_enter Try.func11, Try.ntmps11
  go_wp2_with (go_at_call 12; refine (seq_any _ (by omega) (by omega) _).mono ?_; rintro e w' ⟨rfl, rfl⟩)
  go_ret2
  exact ⟨rfl, rfl⟩
end Go.Proofs.Qxb6003015a
