import Derived.Test.Qxb6603516aMem
namespace Go.Proofs.Qxb6603516a
open Go.RowKit

set_option maxHeartbeats 2000000 in
theorem zz2_any (a b : Option Addr) (n m c1 c2 B1 B2 : Nat) (xs ys : List Str) (w : World) (h1 : SS w B1 a n xs) (h2 : SS w B2 b m ys) :
    Calls Try.prog 14 #[.slice a n c1, .slice b m c2] w fun e w' => SaysBool e ∧ w = w' := by
  by_cases hn : (n : Int) ≤ 1048576
  · go_enter Try.func14, Try.ntmps14
    go_wp2
    go_loop [5, 6] (fun z i => ∃ (k : Nat) (x : Int), k ≤ n ∧ i = .int .i64 k ∧ z = .int .i64 x ∧ 0 ≤ x ∧ x ≤ 1048576) (fun _ i => n - (intOf i).toNat)
    case atStart => exact ⟨0, n, Nat.zero_le _, rfl, rfl, by omega, hn⟩
    case round =>
      obtain ⟨k, x, hk, rfl, rfl, x0, x1⟩ := hrel
      by_cases hlt : k < n
      · obtain ⟨ab, ao, rfl, _, hc⟩ := h1.2.2.2 (by omega)
        have hcell := hc k hlt
        clear hc
        generalize xs.getD k [] = s at hcell
        go_wp2
        · go_ret
          exact ⟨saysBool _, rfl⟩
        · go_ret
          exact ⟨saysBool _, rfl⟩
        · go_round
          case rel => exact ⟨k + 1, _, by omega, by go_num, rfl, by omega, by assumption⟩
          case measure => simp [intOf]; omega
      · by_cases hm : (m : Int) ≤ 1048576
        · by_cases hxm : x + m ≤ 1048576
          · go_wp2
            go_loop [5, 7] (fun z i => ∃ (k : Nat) (x : Int), k ≤ m ∧ i = .int .i64 k ∧ z = .int .i64 x ∧ 0 ≤ x ∧ x ≤ 1048576) (fun _ i => m - (intOf i).toNat)
            case atStart => exact ⟨0, _, Nat.zero_le _, rfl, rfl, by omega, hxm⟩
            case round =>
              obtain ⟨k', x', hk', rfl, rfl, x0', x1'⟩ := hrel
              by_cases hlt' : k' < m
              · obtain ⟨ab, ao, rfl, _, hc⟩ := h2.2.2.2 (by omega)
                have hcell := hc k' hlt'
                clear hc
                generalize ys.getD k' [] = s at hcell
                go_wp2
                · go_ret
                  exact ⟨saysBool _, rfl⟩
                · go_ret
                  exact ⟨saysBool _, rfl⟩
                · go_round
                  case rel => exact ⟨k' + 1, _, by omega, by go_num, rfl, by omega, by assumption⟩
                  case measure => simp [intOf]; omega
              · go_wp2
                go_ret
                exact ⟨saysBool _, rfl⟩
          · go_wp2
            go_ret
            exact ⟨saysBool _, rfl⟩
        · go_wp2
          go_ret
          exact ⟨saysBool _, rfl⟩
  · go_enter Try.func14, Try.ntmps14
    go_wp2
    go_ret
    exact ⟨saysBool _, rfl⟩
end Go.Proofs.Qxb6603516a
