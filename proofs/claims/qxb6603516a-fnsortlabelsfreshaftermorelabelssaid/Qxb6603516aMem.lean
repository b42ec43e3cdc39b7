import Derived.Test.Qxb6603516aRows
import Derived.WalkKit
import Derived.WalkSpells
import Derived.StillTactics
import Derived.Laws.Pointers
import Derived.RowKit3
import Derived.Outline
import Derived.Deep.OwnRows
import Derived.Deep.QuietTactic
import Derived.BigQuiet
import Derived.ProofKit
import Derived.OpenShut
import Derived.Sort.EncStr
namespace Go.Proofs.Qxb6603516a
open Go.RowKit

theorem hide {p : Prop} (h : p) : Hid p := h
theorem unhide {p : Prop} (h : Hid p) : p := h
theorem below_drewN {B : Nat} {a w : World} (h : Below B a w) (n : Nat) : Below B a (w.drewN n) := ⟨h.os, h.tape, h.output, h.size, h.block⟩

abbrev Str := List UInt8

theorem info9 : (Try.prog.info? 9).map (fun i => (i.zero, i.size, i.bytes)) = some (some (.string ⟨#[]⟩), 1, 16) := by kernel_rfl

/-- A slice of strings that can be read: its n strings are xs; where there is one, they lie in one block below B. -/
def SS (w : World) (B : Nat) (a : Option Addr) (n : Nat) (xs : List Str) : Prop :=
  xs.length = n ∧ (∀ x ∈ xs, x.length ≤ maxLen) ∧ (a = none → n = 0) ∧
  (0 < n → ∃ b off, a = some ⟨b, off, none⟩ ∧ b < B ∧ ∀ i, i < n → w.cell? ⟨b, off + i, none⟩ = some (.string ⟨(xs.getD i []).toArray⟩))

theorem SS.carry {w w' : World} {B : Nat} {a : Option Addr} {n : Nat} {zs : List Str} (h : SS w B a n zs) (hb : Below B w w') : SS w' B a n zs :=
  ⟨h.1, h.2.1, h.2.2.1, fun h0 => by
    obtain ⟨b, off, e, hB, hc⟩ := h.2.2.2 h0
    exact ⟨b, off, e, hB, fun i hi => (hb.cell (p := ⟨b, off + i, none⟩) hB).trans (hc i hi)⟩⟩
theorem SS.mono {w : World} {B B' : Nat} {a : Option Addr} {n : Nat} {zs : List Str} (h : SS w B a n zs) (hB : B ≤ B') : SS w B' a n zs :=
  ⟨h.1, h.2.1, h.2.2.1, fun h0 => by
    obtain ⟨b, off, e, hb, hc⟩ := h.2.2.2 h0
    exact ⟨b, off, e, by omega, hc⟩⟩

/-! ### the program's own bounds on lengths: whatever they say, the world stands -/
def SaysBool (e : Ending) : Prop := ∃ q : Bool, e = .returned (.bool q)
def SaysInt (e : Ending) : Prop := ∃ q : Int, e = .returned (.int .i64 q)
theorem saysBool (q : Bool) : SaysBool (.returned (.bool q)) := ⟨q, rfl⟩
theorem saysInt (q : Int) : SaysInt (.returned (.int .i64 q)) := ⟨q, rfl⟩

set_option maxHeartbeats 1000000 in
theorem zz_some (b off n cap : Nat) (xs : List Str) (w : World) (hc : ∀ j, j < n → w.cell? ⟨b, off + j, none⟩ = some (.string ⟨(xs.getD j []).toArray⟩)) :
    Calls Try.prog 5 #[.slice (some ⟨b, off, none⟩) n cap] w fun e w' => SaysBool e ∧ w = w' := by
  have HC := hide hc
  clear hc
  by_cases hn : (n : Int) ≤ 1048576
  · go_enter Try.func5, Try.ntmps5
    go_wp2
    go_loop [3, 4] (fun z i => ∃ (k : Nat) (x : Int), k ≤ n ∧ i = .int .i64 k ∧ z = .int .i64 x ∧ 0 ≤ x ∧ x ≤ 1048576) (fun _ i => n - (intOf i).toNat)
    case atStart => exact ⟨0, n, Nat.zero_le _, rfl, rfl, by omega, hn⟩
    case round =>
      obtain ⟨k, x, hk, rfl, rfl, x0, x1⟩ := hrel
      by_cases hlt : k < n
      · have hcell := unhide HC k hlt
        generalize xs.getD k [] = s at hcell
        go_wp2
        · go_ret
          exact ⟨saysBool _, rfl⟩
        · go_ret
          exact ⟨saysBool _, rfl⟩
        · go_round
          case rel => exact ⟨k + 1, _, by omega, by go_num, rfl, by omega, by assumption⟩
          case measure => simp [intOf]; omega
      · go_wp2
        go_ret
        exact ⟨saysBool _, rfl⟩
  · go_enter Try.func5, Try.ntmps5
    go_wp2
    go_ret
    exact ⟨saysBool _, rfl⟩

theorem zz_none (a : Option Addr) (cap : Nat) (w : World) : Calls Try.prog 5 #[.slice a 0 cap] w fun e w' => SaysBool e ∧ w = w' := by
  go_enter Try.func5, Try.ntmps5
  go_wp2
  refine wp_loop_rounds 1 ?_
  rw [rounds_succ]; go_wp2
  go_ret
  exact ⟨saysBool _, rfl⟩

theorem zz_any (a : Option Addr) (n cap B : Nat) (xs : List Str) (w : World) (h : SS w B a n xs) : Calls Try.prog 5 #[.slice a n cap] w fun e w' => SaysBool e ∧ w = w' := by
  by_cases h0 : n = 0
  · subst h0; exact zz_none a cap w
  · obtain ⟨b, off, rfl, _, hc⟩ := h.2.2.2 (by omega)
    exact zz_some b off n cap xs w hc

set_option maxHeartbeats 1000000 in
theorem size_some (b off n cap : Nat) (xs : List Str) (w : World) (hn : n ≤ 4096) (hc : ∀ j, j < n → w.cell? ⟨b, off + j, none⟩ = some (.string ⟨(xs.getD j []).toArray⟩)) :
    Calls Try.prog 6 #[.slice (some ⟨b, off, none⟩) n cap] w fun e w' => SaysInt e ∧ w = w' := by
  have HC := hide hc
  have hn' : (n : Int) ≤ 4096 := by omega
  clear hc
  go_enter Try.func6, Try.ntmps6
  go_wp2
  go_loop [3, 4] (fun z i => ∃ (k : Nat) (x : Int), k ≤ n ∧ i = .int .i64 k ∧ z = .int .i64 x) (fun _ i => n - (intOf i).toNat)
  case atStart => exact ⟨0, _, Nat.zero_le _, rfl, rfl⟩
  case round =>
    obtain ⟨k, x, hk, rfl, rfl⟩ := hrel
    by_cases hlt : k < n
    · have hcell := unhide HC k hlt
      generalize xs.getD k [] = s at hcell
      go_wp2
      · go_ret
        exact ⟨saysInt _, rfl⟩
      · go_round
        case rel => exact ⟨k + 1, _, by omega, by go_num, rfl⟩
        case measure => simp [intOf]; omega
    · go_wp2
      go_ret
      exact ⟨saysInt _, rfl⟩

theorem size_none (a : Option Addr) (cap : Nat) (w : World) : Calls Try.prog 6 #[.slice a 0 cap] w fun e w' => SaysInt e ∧ w = w' := by
  go_enter Try.func6, Try.ntmps6
  go_wp2
  refine wp_loop_rounds 1 ?_
  rw [rounds_succ]; go_wp2
  go_ret
  exact ⟨saysInt _, rfl⟩

theorem size_any (a : Option Addr) (n cap B : Nat) (xs : List Str) (w : World) (hn : n ≤ 4096) (h : SS w B a n xs) : Calls Try.prog 6 #[.slice a n cap] w fun e w' => SaysInt e ∧ w = w' := by
  by_cases h0 : n = 0
  · subst h0; exact size_none a cap w
  · obtain ⟨b, off, rfl, _, hc⟩ := h.2.2.2 (by omega)
    exact size_some b off n cap xs w hn hc

/-! ### cloneStrings -/
theorem row_end {wr : World} {B len m : Nat} {zs : List Str} (h : wr.rowIs B 9 len (fun j => if j < m then .string ⟨(zs.getD j []).toArray⟩ else .string ⟨#[]⟩)) (hm : len ≤ m) :
    wr.rowIs B 9 len (fun j => .string ⟨(zs.getD j []).toArray⟩) := h.congr fun j hj => by rw [if_pos (by omega)]

theorem row_step {wr : World} {B len m : Nat} {zs : List Str} (h : wr.rowIs B 9 len (fun j => if j < m then .string ⟨(zs.getD j []).toArray⟩ else .string ⟨#[]⟩)) :
    (wr.setCell ⟨B, m, none⟩ (.string ⟨(zs.getD m []).toArray⟩)).rowIs B 9 len (fun j => if j < m + 1 then .string ⟨(zs.getD j []).toArray⟩ else .string ⟨#[]⟩) := (h.set m _).congr fun j _ => by
  show (if j = m then _ else if j < m then _ else _) = _
  by_cases e : j = m
  · subst e; simp
  · rw [if_neg e]
    by_cases e2 : j < m
    · rw [if_pos e2, if_pos (by omega)]
    · rw [if_neg e2, if_neg (by omega)]

theorem eq_nil (a : Option Addr) (n c : Nat) (w : World) : (binOp .eql 22 (.slice a n c) (.slice none 0 0)).run Try.prog w = .ok (.bool a.isNone) w :=
  Lib.run_eql_slice_nil w 22 9 a n c 0 0 Try.underlying22

theorem clone_nil (n cap : Nat) (h : n = 0) (hcap : cap = 0) (w : World) :
    Calls Try.prog 7 #[.slice none n cap] w fun e w' => e = .returned (.slice none 0 0) ∧ w' = w := by
  subst h hcap
  have hq := eq_nil none 0 0
  simp only [Option.isNone_none] at hq
  go_enter Try.func7, Try.ntmps7
  go_wp2
  go_ret
  exact ⟨rfl, rfl⟩

set_option maxHeartbeats 1000000 in
theorem clone_some (b off n cap : Nat) (zs : List Str) (w : World) (hn : n ≤ 4096) (hbB : b < w.heap.size)
    (hc : ∀ j, j < n → w.cell? ⟨b, off + j, none⟩ = some (.string ⟨(zs.getD j []).toArray⟩)) :
    Calls Try.prog 7 #[.slice (some ⟨b, off, none⟩) n cap] w fun e w' => e = .returned (.slice (some ⟨w.heap.size, 0, none⟩) n n) ∧ Below w.heap.size w w' ∧ w.heap.size < w'.heap.size ∧
      w'.rowIs w.heap.size 9 n (fun j => .string ⟨(zs.getD j []).toArray⟩) := by
  have hmk := run_make_row' (P := Try.prog) 22 9 (.string ⟨#[]⟩) 16 Try.underlying22 info9 rfl .i64 .i64 n (by omega) (by omega)
  have hl2 : (n : Int) ≤ 4096 := by omega
  have HC := hide hc
  clear hc
  have hq := eq_nil (some ⟨b, off, none⟩) n cap
  simp only [Option.isNone_some] at hq
  go_enter Try.func7, Try.ntmps7
  go_wp2
  go_loopw [4] (fun i wr => ∃ m : Nat, m ≤ n ∧ i = .int .i64 m ∧ Below w.heap.size w wr ∧ w.heap.size < wr.heap.size ∧ wr.rowIs w.heap.size 9 n (fun j => if j < m then .string ⟨(zs.getD j []).toArray⟩ else .string ⟨#[]⟩)) (fun i _ => n - (intOf i).toNat)
  case atStart => exact ⟨0, Nat.zero_le _, rfl, (Below.refl _ _).alloc (Nat.le_refl _) _, by simp, (World.rowIs_made _ _ _ _).congr (fun j _ => by simp)⟩
  case round =>
    obtain ⟨m, hm, rfl, hbel, hsz, hrow⟩ := hrel
    by_cases hlt2 : m < n
    · have hcell : wr.cell? ⟨b, off + m, none⟩ = some (.string ⟨(zs.getD m []).toArray⟩) := (hbel.cell (by exact hbB)).trans (unhide HC m hlt2)
      obtain ⟨v, hv⟩ : ∃ v, wr.cell? ⟨w.heap.size, m, none⟩ = some v := ⟨_, hrow.cell hlt2⟩
      have hf := hrow.frozen m
      have Hrow := hide (row_step hrow)
      clear hrow
      generalize zs.getD m [] = s at *
      go_wp2
      go_roundw
      case rel => exact ⟨m + 1, by omega, by go_num, hbel.setCell (Nat.le_refl _) _, by simpa using hsz, unhide Hrow⟩
      case measure => simp [intOf]; omega
    · have hrow2 := row_end hrow (by omega)
      have Hrow := hide hrow2
      clear hrow hrow2
      go_wp2
      go_ret
      exact ⟨rfl, hbel, hsz, unhide Hrow⟩

theorem SS_row {w : World} {B n : Nat} {zs : List Str} (hl : zs.length = n) (hz : ∀ x ∈ zs, x.length ≤ maxLen) (h : w.rowIs B 9 n (fun j => .string ⟨(zs.getD j []).toArray⟩)) : SS w w.heap.size (some ⟨B, 0, none⟩) n zs :=
  ⟨hl, hz, fun h => by simp at h, fun _ => ⟨B, 0, rfl, h.lt, fun i hi => by simpa using h.cell hi⟩⟩

set_option maxHeartbeats 1000000 in
theorem clone_zero (x : Addr) (cap : Nat) (w : World) :
    Calls Try.prog 7 #[.slice (some x) 0 cap] w fun e w' => e = .returned (.slice (some ⟨w.heap.size, 0, none⟩) 0 0) ∧ Below w.heap.size w w' := by
  have hmk := run_make_row' (P := Try.prog) 22 9 (.string ⟨#[]⟩) 16 Try.underlying22 info9 rfl .i64 .i64 0 (by omega) (by omega)
  simp only [Int.natCast_zero] at hmk
  have hq := eq_nil (some x) 0 cap
  simp only [Option.isNone_some] at hq
  go_enter Try.func7, Try.ntmps7
  go_wp2
  refine wp_loop_rounds 1 ?_
  rw [rounds_succ]; go_wp2
  go_ret
  exact ⟨rfl, (Below.refl _ _).alloc (Nat.le_refl _) _⟩

theorem clone_any (a : Option Addr) (n cap : Nat) (zs : List Str) (w : World) (hs : SS w w.heap.size a n zs) (hcap : a = none → cap = 0) (hn : n ≤ 4096) :
    Calls Try.prog 7 #[.slice a n cap] w fun e w' => ∃ a' cap', e = .returned (.slice a' n cap') ∧ SS w' w'.heap.size a' n zs ∧ Below w.heap.size w w' := by
  obtain ⟨hl, hz, hnil, hcells⟩ := hs
  by_cases h0 : n = 0
  · subst h0
    cases a with
    | none =>
      refine (clone_nil 0 cap rfl (hcap rfl) w).mono ?_
      rintro e w' ⟨rfl, rfl⟩
      exact ⟨none, 0, rfl, ⟨hl, hz, fun _ => rfl, fun h => absurd h (Nat.lt_irrefl _)⟩, Below.refl _ _⟩
    | some x =>
      refine (clone_zero x cap w).mono ?_
      rintro e w' ⟨rfl, hb⟩
      exact ⟨_, 0, rfl, ⟨hl, hz, fun _ => rfl, fun h => absurd h (Nat.lt_irrefl _)⟩, hb⟩
  · obtain ⟨b, off, rfl, hB, hc⟩ := hcells (by omega)
    refine (clone_some b off n cap zs w hn hB hc).mono ?_
    rintro e w' ⟨rfl, hb, _, hr⟩
    exact ⟨_, n, rfl, SS_row hl hz hr, hb⟩

/-! ### equalStrings -/
set_option maxHeartbeats 1000000 in
theorem equal_some (b1 o1 c1 b2 o2 c2 n : Nat) (zs : List Str) (w : World) (hn : n ≤ 8192) (h1 : ∀ j, j < n → w.cell? ⟨b1, o1 + j, none⟩ = some (.string ⟨(zs.getD j []).toArray⟩)) (h2 : ∀ j, j < n → w.cell? ⟨b2, o2 + j, none⟩ = some (.string ⟨(zs.getD j []).toArray⟩)) :
    Calls Try.prog 11 #[.slice (some ⟨b1, o1, none⟩) n c1, .slice (some ⟨b2, o2, none⟩) n c2] w fun e w' => e = .returned (.bool true) ∧ ∃ q, w' = w.drewN q := by
  have hl2 : (n : Int) ≤ 8192 := by omega
  have HC := hide h1
  have HD := hide h2
  clear h1 h2
  go_enter Try.func11, Try.ntmps11
  go_wp2
  go_loopw [5] (fun i wr => ∃ k : Nat, k ≤ n ∧ i = .int .i64 k ∧ ∃ q, wr = w.drewN q) (fun i _ => n - (intOf i).toNat)
  case atStart => exact ⟨0, Nat.zero_le _, rfl, 0, rfl⟩
  case round =>
    obtain ⟨k, hk, rfl, q, rfl⟩ := hrel
    by_cases hlt : k < n
    · obtain ⟨z, hz⟩ : ∃ z, z = zs.getD k [] := ⟨_, rfl⟩
      have hc1 : w.cell? ⟨b1, o1 + k, none⟩ = some (.string ⟨z.toArray⟩) := by rw [hz]; exact unhide HC k hlt
      have hc2 : w.cell? ⟨b2, o2 + k, none⟩ = some (.string ⟨z.toArray⟩) := by rw [hz]; exact unhide HD k hlt
      have hkn : (k : Int) < (n : Int) := by omega
      clear hz
      go_wp2
      go_quiet (fail)
      go_wp2
      go_roundw
      case rel => exact ⟨k + 1, by omega, by go_num, _, rfl⟩
      case measure => simp [intOf]; omega
    · go_wp2
      go_ret
      exact ⟨rfl, _, rfl⟩

theorem equal_zero (a1 a2 : Option Addr) (c1 c2 : Nat) (w : World) :
    Calls Try.prog 11 #[.slice a1 0 c1, .slice a2 0 c2] w fun e w' => e = .returned (.bool true) ∧ ∃ q, w' = w.drewN q := by
  go_enter Try.func11, Try.ntmps11
  go_wp2
  refine wp_loop_rounds 1 ?_
  rw [rounds_succ]; go_wp2
  go_ret
  exact ⟨rfl, 0, rfl⟩

theorem equal_any (a1 a2 : Option Addr) (c1 c2 n B1 B2 : Nat) (zs : List Str) (w : World) (hn : n ≤ 8192) (h1 : SS w B1 a1 n zs) (h2 : SS w B2 a2 n zs) :
    Calls Try.prog 11 #[.slice a1 n c1, .slice a2 n c2] w fun e w' => e = .returned (.bool true) ∧ ∃ q, w' = w.drewN q := by
  by_cases h0 : n = 0
  · subst h0
    exact equal_zero a1 a2 c1 c2 w
  · obtain ⟨b1, o1, rfl, _, hc1⟩ := h1.2.2.2 (by omega)
    obtain ⟨b2, o2, rfl, _, hc2⟩ := h2.2.2.2 (by omega)
    exact equal_some b1 o1 c1 b2 o2 c2 n zs w hn hc1 hc2

/-- What is owned can be read. -/
theorem SS_owns {w : World} {base n : Nat} {v : Value} {zs : List Str} (hl : zs.length = n) (hz : ∀ x ∈ zs, x.length ≤ maxLen) (h : w.ownsRow base 9 1 v n (zs.map encStr)) :
    ∃ a cap, v = .slice a n cap ∧ SS w w.heap.size a n zs := by
  rcases h.2 with ⟨rfl, rfl⟩ | ⟨g, cap, cur, rfl, _, hg, hcap, _⟩
  · exact ⟨none, 0, rfl, hl, hz, fun _ => rfl, fun h => absurd h (Nat.lt_irrefl _)⟩
  · refine ⟨_, cap, rfl, hl, hz, fun h => by simp at h, fun _ => ⟨g, 0, rfl, (Array.getElem?_eq_some_iff.1 hg).1, fun i hi => ?_⟩⟩
    have := h.cellAt i (by omega)
    rw [Nat.zero_add, this]
    simp [List.getD, List.getElem?_eq_getElem (show i < zs.length by omega)]
end Go.Proofs.Qxb6603516a
