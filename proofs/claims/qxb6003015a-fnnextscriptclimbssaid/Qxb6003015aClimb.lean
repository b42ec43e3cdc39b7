import Derived.Test.Qxb6003015aNext
import Derived.Deep.LoopGhost
namespace Go.Proofs.Qxb6003015a
open Go.RowKit

theorem hide {p : Prop} (h : p) : Hid p := h
theorem unhide {p : Prop} (h : Hid p) : p := h

theorem good_step {zs : List Int} {k : Nat} {z : Int} (h : ∀ j, j < k → 0 ≤ zs.getD j 0 ∧ zs.getD j 0 ≤ 31) (e : z = zs.getD k 0) (h0 : 0 ≤ z) (h1 : z ≤ 31) :
    Hid (∀ j, j < k + 1 → 0 ≤ zs.getD j 0 ∧ zs.getD j 0 ≤ 31) := by
  intro j hj
  by_cases hjk : j < k
  · exact h j hjk
  · obtain rfl : j = k := by omega
    rw [← e]; exact ⟨h0, h1⟩

theorem row_end {wr : World} {B len m : Nat} {zs : List Int} (h : wr.rowIs B 3 len (fun j => if j < m then .int .i64 (zs.getD j 0) else .int .i64 0)) (hm : len ≤ m) :
    wr.rowIs B 3 len (fun j => .int .i64 (zs.getD j 0)) := h.congr fun j hj => by rw [if_pos (by omega)]

theorem row_step {wr : World} {B len m : Nat} {zs : List Int} (h : wr.rowIs B 3 len (fun j => if j < m then .int .i64 (zs.getD j 0) else .int .i64 0)) :
    (wr.setCell ⟨B, m, none⟩ (.int .i64 (zs.getD m 0))).rowIs B 3 len (fun j => if j < m + 1 then .int .i64 (zs.getD j 0) else .int .i64 0) := (h.set m _).congr fun j _ => by
  show (if j = m then _ else if j < m then _ else _) = _
  by_cases e : j = m
  · subst e; simp
  · rw [if_neg e]
    by_cases e2 : j < m
    · rw [if_pos e2, if_pos (by omega)]
    · rw [if_neg e2, if_neg (by omega)]

set_option maxRecDepth 100000 in
set_option maxHeartbeats 2000000 in
theorem climb (s : Int) (b off len cap : Nat) (zs : List Int) (w : World) (hs0 : 0 ≤ s) (hs1 : s < 281474976710656) (hl0 : 1 ≤ len) (hl1 : len ≤ 4096) (hbB : b < w.heap.size)
    (hc : ∀ j, j < len → w.cell? ⟨b, off + j, none⟩ = some (.int .i64 (zs.getD j 0))) :
    Calls Try.prog 6 #[.int .u64 s, .slice (some ⟨b, off, none⟩) len cap] w fun e w' => e = .returned (.bool true) ∧ Below w.heap.size w w' := by
  have hmk := run_make_row' (P := Try.prog) 31 3 (.int .i64 0) 8 Try.underlying31 info3 rfl .i64 .i64 len (by omega) (by omega)
  have hl2 : (len : Int) ≤ 4096 := by omega
  have HC := hide hc
  clear hc
  go_enter Try.func6, Try.ntmps6
  go_wp2_with fail
  refine (zz_yes _ _ _ _ (by omega) _).mono ?_
  rintro e w1 ⟨rfl, rfl⟩
  go_wp2_with fail
  go_loop [5] (fun i => ∃ k : Nat, k ≤ len ∧ i = .int .i64 k ∧ Hid (∀ j, j < k → 0 ≤ zs.getD j 0 ∧ zs.getD j 0 ≤ 31)) (fun i => len - (intOf i).toNat)
  case atStart => exact ⟨0, Nat.zero_le _, rfl, hide (fun j hj => absurd hj (Nat.not_lt_zero _))⟩
  case round =>
    obtain ⟨k, hk, rfl, hz⟩ := hrel
    by_cases hlt : k < len
    · obtain ⟨z, hzk⟩ : ∃ z, z = zs.getD k 0 := ⟨_, rfl⟩
      have hcell := unhide HC k hlt
      rw [← hzk] at hcell
      have Hzk := hide hzk
      clear hzk
      by_cases g0 : z < 0
      · go_wp2
        go_ret
        exact ⟨rfl, Below.refl _ _⟩
      · by_cases g1 : 31 < z
        · go_wp2
          go_ret
          exact ⟨rfl, Below.refl _ _⟩
        · go_wp2
          go_round
          case rel => exact ⟨k + 1, by omega, by go_num, good_step (unhide hz) (unhide Hzk) (by omega) (by omega)⟩
          case measure => simp [intOf]; omega
    · have hkl : len ≤ k := by omega
      have Hz : Hid (∀ j, j < len → 0 ≤ zs.getD j 0 ∧ zs.getD j 0 ≤ 31) := fun j hj => unhide hz j (by omega)
      clear hz
      go_wp2_with fail
      go_loopw [7] (fun i wr => ∃ m : Nat, m ≤ len ∧ i = .int .i64 m ∧ Below w1.heap.size w1 wr ∧ w1.heap.size < wr.heap.size ∧ wr.rowIs w1.heap.size 3 len (fun j => if j < m then .int .i64 (zs.getD j 0) else .int .i64 0)) (fun i _ => len - (intOf i).toNat)
      case atStart => exact ⟨0, Nat.zero_le _, rfl, (Below.refl _ _).alloc (Nat.le_refl _) _, by simp, (World.rowIs_made _ _ _ _).congr (fun j _ => by simp)⟩
      case round =>
        obtain ⟨m, hm, rfl, hbel, hsz, hrow⟩ := hrel
        by_cases hlt2 : m < len
        · have hcell : wr.cell? ⟨b, off + m, none⟩ = some (.int .i64 (zs.getD m 0)) := (hbel.cell (by exact hbB)).trans (unhide HC m hlt2)
          obtain ⟨v, hv⟩ : ∃ v, wr.cell? ⟨w1.heap.size, m, none⟩ = some v := ⟨_, hrow.cell hlt2⟩
          have hf := hrow.frozen m
          have Hrow := hide hrow
          clear hrow
          go_wp2
          go_roundw
          case rel => exact ⟨m + 1, by omega, by go_num, hbel.setCell (Nat.le_refl _) _, by simpa using hsz, by simpa using row_step (unhide Hrow)⟩
          case measure => simp [intOf]; omega
        · have hrow2 := row_end hrow (by omega)
          have Hrow := hide hrow2
          clear hrow hrow2
          go_wp2_with fail
          go_loop [8, 9, 10] (fun c st i => ∃ (q : Nat) (x : Int), q ≤ len ∧ i = .int .i64 q ∧ c = .int .u64 x ∧ st = .int .u64 q ∧ 0 ≤ x ∧ x < 281474976710656 ∧ x / 32 = s / 32 + q) (fun _ _ i => len - (intOf i).toNat)
          case atStart => exact ⟨0, s, Nat.zero_le _, rfl, rfl, rfl, hs0, hs1, by simp⟩
          case round =>
            obtain ⟨q, x, hq, rfl, rfl, rfl, hx0, hx1, hxq⟩ := hrel
            have Hxq := hide hxq
            clear hxq
            by_cases hlt3 : q < len
            · obtain ⟨d, hd⟩ : ∃ d, d = zs.getD q 0 := ⟨_, rfl⟩
              have hd01 := unhide Hz q hlt3
              have hcell : wr.cell? ⟨w1.heap.size, q, none⟩ = some (.int .i64 (zs.getD q 0)) := (unhide Hrow).cell hlt3
              rw [← hd] at hcell hd01
              obtain ⟨d0, d1⟩ := hd01
              have Hd := hide hd
              clear hd
              by_cases hend : x < 281474976710624
              · have f1 : x < (x / 32 + 1) * 32 + d := by omega
                have f2 : (x / 32 + 1) * 32 + d < 281474976710656 := by omega
                have f3 : (((x / 32 + 1) * 32 + d) % 32 != d) = false := by simp; omega
                have f4 : (((x / 32 + 1) * 32 + d) / 32 != x / 32 + 1) = false := by simp; omega
                go_wp2_with fail
                refine (next_yes _ _ hx0 hend d0 d1 _).mono ?_
                rintro e w2 ⟨rfl, rfl⟩
                generalize hnv : (x / 32 + 1) * 32 + d = nv at *
                have Hnv := hide hnv
                clear hnv
                go_wp2
                go_round
                case rel => exact ⟨q + 1, nv, by omega, by go_num, rfl, by go_num, by omega, f2, by have := unhide Hxq; have := unhide Hnv; omega⟩
                case measure => simp [intOf]; omega
              · have f1 : (s / 32 + q == 8796093022207) = true := by have := unhide Hxq; simp; omega
                go_wp2_with fail
                refine (next_no _ _ (by omega) hx1 d0 d1 _).mono ?_
                rintro e w2 ⟨rfl, rfl⟩
                go_wp2
                go_ret
                exact ⟨rfl, hbel⟩
            · have f1 : (x / 32 == s / 32 + len) = true := by have := unhide Hxq; simp; omega
              go_wp2
              go_ret
              exact ⟨rfl, hbel⟩

set_option maxRecDepth 100000 in
set_option maxHeartbeats 2000000 in
theorem climb0 (s : Int) (a : Option Addr) (cap : Nat) (w : World) (hs0 : 0 ≤ s) (hs1 : s < 281474976710656) :
    Calls Try.prog 6 #[.int .u64 s, .slice a 0 cap] w fun e w' => e = .returned (.bool true) ∧ Below w.heap.size w w' := by
  have hmk := run_make_row' (P := Try.prog) 31 3 (.int .i64 0) 8 Try.underlying31 info3 rfl .i64 .i64 0 (by omega) (by omega)
  simp only [Int.natCast_zero] at hmk
  go_enter Try.func6, Try.ntmps6
  go_wp2_with fail
  refine (zz_yes _ _ _ _ (by omega) _).mono ?_
  rintro e w1 ⟨rfl, rfl⟩
  go_wp2_with fail
  refine wp_loop_rounds 1 ?_
  rw [rounds_succ]; go_wp2
  refine wp_loop_rounds 1 ?_
  rw [rounds_succ]; go_wp2
  refine wp_loop_rounds 1 ?_
  rw [rounds_succ]; go_wp2
  go_ret
  exact ⟨rfl, (Below.refl _ _).alloc (Nat.le_refl _) _⟩

theorem climb_long (s : Int) (a : Option Addr) (len cap : Nat) (w : World) (h : 4096 < len) :
    Calls Try.prog 6 #[.int .u64 s, .slice a len cap] w fun e w' => e = .returned (.bool true) ∧ Below w.heap.size w w' := by
  have h1 : (4096 : Int) < len := by omega
  by_cases h2 : len ≤ 1048576
  · go_enter Try.func6, Try.ntmps6
    go_wp2_with fail
    refine (zz_yes _ _ _ _ h2 _).mono ?_
    rintro e w1 ⟨rfl, rfl⟩
    go_wp2
    go_ret
    exact ⟨rfl, Below.refl _ _⟩
  · go_enter Try.func6, Try.ntmps6
    go_wp2_with fail
    refine (zz_no _ _ _ _ (by omega) _).mono ?_
    rintro e w1 ⟨rfl, rfl⟩
    go_wp2
    go_ret
    exact ⟨rfl, Below.refl _ _⟩

theorem climb_wide (s : Int) (a : Option Addr) (len cap : Nat) (w : World) (h : len ≤ 4096) (hs : 281474976710656 ≤ s) :
    Calls Try.prog 6 #[.int .u64 s, .slice a len cap] w fun e w' => e = .returned (.bool true) ∧ Below w.heap.size w w' := by
  have h1 : (len : Int) ≤ 4096 := by omega
  go_enter Try.func6, Try.ntmps6
  go_wp2_with fail
  refine (zz_yes _ _ _ _ (by omega) _).mono ?_
  rintro e w1 ⟨rfl, rfl⟩
  go_wp2
  go_ret
  exact ⟨rfl, Below.refl _ _⟩
end Go.Proofs.Qxb6003015a
