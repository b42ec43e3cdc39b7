import Derived.Test.Qxb6602005aRows
import Derived.WalkKit
import Derived.WalkSpells
import Derived.StillTactics
import Derived.Laws.Pointers
import Derived.RowKit3
import Derived.Outline
import Derived.Deep.OwnRows
import Derived.Deep.QuietTactic
import Derived.BigQuiet
import Derived.ProofKit
import Derived.OpenShut
namespace Go.Proofs.Qxb6602005a
open Go.RowKit

theorem hide {p : Prop} (h : p) : Hid p := h
theorem unhide {p : Prop} (h : Hid p) : p := h

theorem info5 : (Try.prog.info? 5).map (fun i => (i.zero, i.size, i.bytes)) = some (some (.int .u8 0), 1, 1) := by kernel_rfl

/-- A slice of bytes that can be read: its n bytes are zs; where there is one, they lie in one block below B. -/
def SB (w : World) (B : Nat) (a : Option Addr) (n : Nat) (zs : List Int) : Prop :=
  zs.length = n ∧ (∀ i, 0 ≤ zs.getD i 0 ∧ zs.getD i 0 ≤ 255) ∧ (a = none → n = 0) ∧
  (0 < n → ∃ b off, a = some ⟨b, off, none⟩ ∧ b < B ∧ ∀ i, i < n → w.cell? ⟨b, off + i, none⟩ = some (.int .u8 (zs.getD i 0)))

theorem SB.carry {w w' : World} {B : Nat} {a : Option Addr} {n : Nat} {zs : List Int} (h : SB w B a n zs) (hb : Below B w w') : SB w' B a n zs :=
  ⟨h.1, h.2.1, h.2.2.1, fun h0 => by
    obtain ⟨b, off, e, hB, hc⟩ := h.2.2.2 h0
    exact ⟨b, off, e, hB, fun i hi => (hb.cell (p := ⟨b, off + i, none⟩) hB).trans (hc i hi)⟩⟩
theorem SB.mono {w : World} {B B' : Nat} {a : Option Addr} {n : Nat} {zs : List Int} (h : SB w B a n zs) (hB : B ≤ B') : SB w B' a n zs :=
  ⟨h.1, h.2.1, h.2.2.1, fun h0 => by
    obtain ⟨b, off, e, hb, hc⟩ := h.2.2.2 h0
    exact ⟨b, off, e, by omega, hc⟩⟩

/-- Out of the frame's own word on a slice that came in. -/
theorem SB_of_row {w : World} {a : Option Addr} {len cap : Nat} {zs : List Int}
    (h : (a = none ∧ len = 0 ∧ cap = 0 ∧ zs = []) ∨ ∃ x, a = some x ∧ len ≤ cap ∧ cap ≤ maxLen ∧ zs.length = cap ∧ (∀ i, i < zs.length → w.cell? (x.add i) = some (.int .u8 (zs.getD i 0))) ∧ ∀ n ∈ zs, (Lit.int .u8 n).wf = true) :
    SB w w.heap.size a len (zs.take len) ∧ (a = none → cap = 0) ∧ len ≤ cap := by
  rcases h with ⟨rfl, rfl, rfl, rfl⟩ | ⟨x, rfl, hl, hm, hz, hcell, hwf⟩
  · exact ⟨⟨rfl, fun i => by simp, fun _ => rfl, fun h => absurd h (Nat.lt_irrefl _)⟩, fun _ => rfl, Nat.le_refl _⟩
  · refine ⟨⟨by simp; omega, fun i => ?_, fun h => by simp at h, fun h0 => ?_⟩, fun h => by simp at h, hl⟩
    · by_cases hi : i < (zs.take len).length
      · have hmem : (zs.take len)[i] ∈ zs := List.mem_of_mem_take (List.getElem_mem hi)
        have := bounds_u8 (hwf _ hmem)
        rw [List.getD, List.getElem?_eq_getElem hi]
        exact this
      · rw [List.getD, List.getElem?_eq_none (by omega)]
        simp
    · obtain ⟨b, off, spot⟩ := x
      have hspot : spot = none := by simpa [Addr.add] using World.cell?_spot (hcell 0 (by omega))
      subst hspot
      refine ⟨b, off, rfl, by simpa [Addr.add] using World.block_lt_of_cell? w _ (hcell 0 (by omega)), fun i hi => ?_⟩
      rw [← WideShapes.add_plain, hcell i (by omega)]
      simp [List.getD, hi]

theorem row_end {wr : World} {B len m : Nat} {zs : List Int} (h : wr.rowIs B 5 len (fun j => if j < m then .int .u8 (zs.getD j 0) else .int .u8 0)) (hm : len ≤ m) :
    wr.rowIs B 5 len (fun j => .int .u8 (zs.getD j 0)) := h.congr fun j hj => by rw [if_pos (by omega)]

theorem row_step {wr : World} {B len m : Nat} {zs : List Int} (h : wr.rowIs B 5 len (fun j => if j < m then .int .u8 (zs.getD j 0) else .int .u8 0)) :
    (wr.setCell ⟨B, m, none⟩ (.int .u8 (zs.getD m 0))).rowIs B 5 len (fun j => if j < m + 1 then .int .u8 (zs.getD j 0) else .int .u8 0) := (h.set m _).congr fun j _ => by
  show (if j = m then _ else if j < m then _ else _) = _
  by_cases e : j = m
  · subst e; simp
  · rw [if_neg e]
    by_cases e2 : j < m
    · rw [if_pos e2, if_pos (by omega)]
    · rw [if_neg e2, if_neg (by omega)]

theorem eq_nil (a : Option Addr) (n c : Nat) (w : World) : (binOp .eql 22 (.slice a n c) (.slice none 0 0)).run Try.prog w = .ok (.bool a.isNone) w :=
  Lib.run_eql_slice_nil w 22 5 a n c 0 0 Try.underlying22

/-! ### zzClone -/
theorem clone_nil (n cap : Nat) (h : n = 0) (hcap : cap = 0) (w : World) :
    Calls Try.prog 6 #[.slice none n cap] w fun e w' => e = .returned (.slice none 0 0) ∧ w' = w := by
  subst h hcap
  have hq := eq_nil none 0 0
  simp only [Option.isNone_none] at hq
  go_enter Try.func6, Try.ntmps6
  go_wp2
  go_ret
  exact ⟨rfl, rfl⟩

set_option maxHeartbeats 1000000 in
theorem clone_some (b off n cap : Nat) (zs : List Int) (w : World) (hn : n ≤ 1048576) (hbB : b < w.heap.size)
    (hc : ∀ j, j < n → w.cell? ⟨b, off + j, none⟩ = some (.int .u8 (zs.getD j 0))) :
    Calls Try.prog 6 #[.slice (some ⟨b, off, none⟩) n cap] w fun e w' => e = .returned (.slice (some ⟨w.heap.size, 0, none⟩) n n) ∧ Below w.heap.size w w' ∧ w.heap.size < w'.heap.size ∧
      w'.rowIs w.heap.size 5 n (fun j => .int .u8 (zs.getD j 0)) := by
  have hmk := run_make_row' (P := Try.prog) 22 5 (.int .u8 0) 1 Try.underlying22 info5 rfl .i64 .i64 n (by omega) (by omega)
  have hl2 : (n : Int) ≤ 1048576 := by omega
  have HC := hide hc
  clear hc
  have hq := eq_nil (some ⟨b, off, none⟩) n cap
  simp only [Option.isNone_some] at hq
  go_enter Try.func6, Try.ntmps6
  go_wp2
  go_loopw [4] (fun i wr => ∃ m : Nat, m ≤ n ∧ i = .int .i64 m ∧ Below w.heap.size w wr ∧ w.heap.size < wr.heap.size ∧ wr.rowIs w.heap.size 5 n (fun j => if j < m then .int .u8 (zs.getD j 0) else .int .u8 0)) (fun i _ => n - (intOf i).toNat)
  case atStart => exact ⟨0, Nat.zero_le _, rfl, (Below.refl _ _).alloc (Nat.le_refl _) _, by simp, (World.rowIs_made _ _ _ _).congr (fun j _ => by simp)⟩
  case round =>
    obtain ⟨m, hm, rfl, hbel, hsz, hrow⟩ := hrel
    by_cases hlt2 : m < n
    · have hcell : wr.cell? ⟨b, off + m, none⟩ = some (.int .u8 (zs.getD m 0)) := (hbel.cell (by exact hbB)).trans (unhide HC m hlt2)
      obtain ⟨v, hv⟩ : ∃ v, wr.cell? ⟨w.heap.size, m, none⟩ = some v := ⟨_, hrow.cell hlt2⟩
      have hf := hrow.frozen m
      have Hrow := hide hrow
      clear hrow
      go_wp2
      go_roundw
      case rel => exact ⟨m + 1, by omega, by go_num, hbel.setCell (Nat.le_refl _) _, by simpa using hsz, by simpa using row_step (unhide Hrow)⟩
      case measure => simp [intOf]; omega
    · have hrow2 := row_end hrow (by omega)
      have Hrow := hide hrow2
      clear hrow hrow2
      go_wp2
      go_ret
      exact ⟨rfl, hbel, hsz, unhide Hrow⟩

theorem SB_row {w : World} {B n : Nat} {zs : List Int} (hl : zs.length = n) (hz : ∀ i, 0 ≤ zs.getD i 0 ∧ zs.getD i 0 ≤ 255) (h : w.rowIs B 5 n (fun j => .int .u8 (zs.getD j 0))) : SB w w.heap.size (some ⟨B, 0, none⟩) n zs :=
  ⟨hl, hz, fun h => by simp at h, fun _ => ⟨B, 0, rfl, h.lt, fun i hi => by simpa using h.cell hi⟩⟩

set_option maxHeartbeats 1000000 in
theorem clone_zero (x : Addr) (cap : Nat) (w : World) :
    Calls Try.prog 6 #[.slice (some x) 0 cap] w fun e w' => e = .returned (.slice (some ⟨w.heap.size, 0, none⟩) 0 0) ∧ Below w.heap.size w w' := by
  have hmk := run_make_row' (P := Try.prog) 22 5 (.int .u8 0) 1 Try.underlying22 info5 rfl .i64 .i64 0 (by omega) (by omega)
  simp only [Int.natCast_zero] at hmk
  have hq := eq_nil (some x) 0 cap
  simp only [Option.isNone_some] at hq
  go_enter Try.func6, Try.ntmps6
  go_wp2
  refine wp_loop_rounds 1 ?_
  rw [rounds_succ]; go_wp2
  go_ret
  exact ⟨rfl, (Below.refl _ _).alloc (Nat.le_refl _) _⟩

theorem clone_any (a : Option Addr) (n cap : Nat) (zs : List Int) (w : World) (hs : SB w w.heap.size a n zs) (hcap : a = none → cap = 0) (hn : n ≤ 1048576) :
    Calls Try.prog 6 #[.slice a n cap] w fun e w' => ∃ a' cap', e = .returned (.slice a' n cap') ∧ n ≤ cap' ∧ a'.isNone = a.isNone ∧ SB w' w'.heap.size a' n zs ∧ Below w.heap.size w w' := by
  obtain ⟨hl, hz, hnil, hcells⟩ := hs
  by_cases h0 : n = 0
  · subst h0
    cases a with
    | none =>
      refine (clone_nil 0 cap rfl (hcap rfl) w).mono ?_
      rintro e w' ⟨rfl, rfl⟩
      exact ⟨none, 0, rfl, Nat.le_refl _, rfl, ⟨hl, hz, fun _ => rfl, fun h => absurd h (Nat.lt_irrefl _)⟩, Below.refl _ _⟩
    | some x =>
      refine (clone_zero x cap w).mono ?_
      rintro e w' ⟨rfl, hb⟩
      exact ⟨_, 0, rfl, Nat.le_refl _, rfl, ⟨hl, hz, fun _ => rfl, fun h => absurd h (Nat.lt_irrefl _)⟩, hb⟩
  · obtain ⟨b, off, rfl, hB, hc⟩ := hcells (by omega)
    refine (clone_some b off n cap zs w hn hB hc).mono ?_
    rintro e w' ⟨rfl, hb, _, hr⟩
    exact ⟨_, n, rfl, Nat.le_refl _, rfl, SB_row hl hz hr, hb⟩

/-! ### zzAppendBytes -/
theorem take_map_snoc (xs : List Value) (ys : List Int) (k : Nat) (h : k < ys.length) : (xs ++ (ys.take k).map (Value.int .u8)) ++ [.int .u8 (ys.getD k 0)] = xs ++ (ys.take (k + 1)).map (Value.int .u8) := by
  have e : ys.getD k 0 = ys[k] := by simp [List.getD, List.getElem?_eq_getElem h]
  rw [List.take_succ_eq_append_getElem h, List.map_append, e, List.append_assoc]
  rfl

set_option maxHeartbeats 1000000 in
theorem append_some (base : Nat) (v : Value) (n : Nat) (xs : List Value) (b off m cap : Nat) (ys : List Int) (w : World) (hown : w.ownsRow base 5 1 v n xs) (hbase : base ≤ w.heap.size) (hnm : n + m ≤ 4194304) (hyl : ys.length = m) (hb : b < base)
    (hc : ∀ j, j < m → w.cell? ⟨b, off + j, none⟩ = some (.int .u8 (ys.getD j 0))) :
    Calls Try.prog 13 #[v, .slice (some ⟨b, off, none⟩) m cap] w fun e w' => ∃ v', e = .returned v' ∧ w'.ownsRow base 5 1 v' (n + m) (xs ++ ys.map (Value.int .u8)) ∧ Below base w w' := by
  have hl2 : (m : Int) ≤ 4194304 := by omega
  obtain ⟨i0, hi, hz0, hz1, hz2⟩ := info_parts info5
  have HC := hide hc
  clear hc
  go_enter Try.func13, Try.ntmps13
  go_wp2
  go_loopw [0, 5] (fun u i wr => ∃ k : Nat, k ≤ m ∧ i = .int .i64 k ∧ wr.ownsRow base 5 1 u (n + k) (xs ++ (ys.take k).map (Value.int .u8)) ∧ Below base w wr) (fun _ i _ => m - (intOf i).toNat)
  case atStart => exact ⟨0, Nat.zero_le _, rfl, by simpa using hown, Below.refl _ _⟩
  case round =>
    obtain ⟨k, hk, rfl, howr, hbel⟩ := hrel
    have hsz := hbel.size
    by_cases hlt : k < m
    · obtain ⟨z, hz⟩ : ∃ z, z = ys.getD k 0 := ⟨_, rfl⟩
      have hcell : wr.cell? ⟨b, off + k, none⟩ = some (.int .u8 z) := by rw [hz]; exact (hbel.cell (by exact hb)).trans (unhide HC k hlt)
      have HT : Hid ((xs ++ (ys.take k).map (Value.int .u8)) ++ [.int .u8 z] = xs ++ (ys.take (k + 1)).map (Value.int .u8)) := by
        rw [hz]
        exact take_map_snoc xs ys k (by omega)
      clear hz
      generalize xs ++ (ys.take k).map (Value.int .u8) = cur at *
      go_wp2_with (first
        | (at_builtin; refine wpList_append_own _ rfl _ _ 22 rfl base 5 i0 (.int .u8 0) 1 1 Try.underlying22 hi hz0 hz1 hz2 rfl (by decide) _ _ _ rfl (howr.alloc _) ⟨wr.heap.size, 0, none⟩ 1 1 [.int .u8 z] rfl rfl ?c1 ?c2 ?c3 ?c4 ?c5 ?_))
      case c1 =>
        intro j u hj
        match j, hj with
        | 0, hj => simp at hj; subst hj; simp [Addr.add]
      case c2 => intro u hu; simp at hu; subst hu; rfl
      case c3 => unfold maxLen; omega
      case c4 => omega
      case c5 => simp; omega
      intro v' w1 hown' hgrow _
      have HB : Hid (Below base w w1) := hbel.trans (((Below.refl _ _).alloc (by omega) _).grown hgrow (by simp; omega) (fun q hq => (howr.lt q hq).1))
      have HO := hide hown'
      clear hown' hgrow howr
      go_wp2
      go_roundw
      case rel => exact ⟨k + 1, by omega, by go_num, by rw [← unhide HT]; exact unhide HO, unhide HB⟩
      case measure => simp [intOf]; omega
    · have hkm : k = m := by omega
      have HO : Hid (wr.ownsRow base 5 1 u0 (n + m) (xs ++ ys.map (Value.int .u8))) := by
        subst hkm
        rw [← hyl, List.take_length] at howr
        rw [← hyl]
        exact howr
      clear howr hkm
      go_wp2
      go_ret
      exact ⟨_, rfl, unhide HO, hbel⟩

theorem append_none (v : Value) (a : Option Addr) (cap : Nat) (w : World) :
    Calls Try.prog 13 #[v, .slice a 0 cap] w fun e w' => e = .returned v ∧ w' = w := by
  go_enter Try.func13, Try.ntmps13
  go_wp2
  refine wp_loop_rounds 1 ?_
  rw [rounds_succ]; go_wp2
  go_ret
  exact ⟨rfl, rfl⟩

theorem append_any (base : Nat) (v : Value) (n : Nat) (xs : List Value) (a : Option Addr) (m cap : Nat) (ys : List Int) (w : World) (hown : w.ownsRow base 5 1 v n xs) (hbase : base ≤ w.heap.size) (hnm : n + m ≤ 4194304) (hs : SB w base a m ys) :
    Calls Try.prog 13 #[v, .slice a m cap] w fun e w' => ∃ v', e = .returned v' ∧ w'.ownsRow base 5 1 v' (n + m) (xs ++ ys.map (Value.int .u8)) ∧ Below base w w' := by
  by_cases h0 : m = 0
  · subst h0
    have hy : ys = [] := List.eq_nil_of_length_eq_zero hs.1
    subst hy
    refine (append_none v a cap w).mono ?_
    rintro e w' ⟨rfl, rfl⟩
    exact ⟨v, rfl, by simpa using hown, Below.refl _ _⟩
  · obtain ⟨b, off, rfl, hB, hc⟩ := hs.2.2.2 (by omega)
    exact append_some base v n xs b off m cap ys w hown hbase hnm hs.1 hB hc

/-! ### zzConcat(a, nil) -/
theorem make_own (n : Nat) (hn : n ≤ 1048576) (w : World) : (Instr.makeSlice 22 (.int .i64 0) (.int .i64 (n : Int))).run Try.prog w = .ok (.slice (some ⟨w.heap.size, 0, none⟩) 0 n) (w.alloc (.cells (madeCells #[.int .u8 0] n) 5)) := by
  obtain ⟨i0, hi, hz0, hz1, hz2⟩ := info_parts info5
  have hr := run_make (P := Try.prog) w 22 5 i0 (.int .u8 0) Try.underlying22 hi hz0 .i64 .i64 0 (n : Int) (by omega) (by omega) (by rw [hz2]; omega) (by omega)
  rw [hz1, show (Value.int .u8 0).cells = #[.int .u8 0] from rfl] at hr
  simpa using hr

set_option maxHeartbeats 1000000 in
theorem concat_any (a : Option Addr) (n cap : Nat) (ys : List Int) (w : World) (hn : n ≤ 1048576) (hs : SB w w.heap.size a n ys) :
    Calls Try.prog 7 #[.slice a n cap, .slice none 0 0] w fun e w' => ∃ v', e = .returned v' ∧ w'.ownsRow w.heap.size 5 1 v' n (ys.map (Value.int .u8)) ∧ Below w.heap.size w w' := by
  have hl2 : (n : Int) ≤ 1048576 := by omega
  have hmk := make_own n hn
  go_enter Try.func7, Try.ntmps7
  go_wp2_with fail
  have ho : (w.alloc (.cells (madeCells #[.int .u8 0] n) 5)).ownsRow w.heap.size 5 1 (.slice (some ⟨w.heap.size, 0, none⟩) 0 n) 0 [] := World.ownsRow_made w _ n (Nat.le_refl _) (by unfold maxLen; omega) (by simp [madeCells])
  have hb0 : Below w.heap.size w (w.alloc (.cells (madeCells #[.int .u8 0] n) 5)) := (Below.refl _ _).alloc (Nat.le_refl _) _
  refine (append_any w.heap.size _ 0 [] a n cap ys _ ho (by simp) (by omega) (hs.carry hb0)).mono ?_
  rintro e w1 ⟨v1, rfl, ho1, hb1⟩
  have HB : Hid (Below w.heap.size w w1) := hb0.trans hb1
  have HO : Hid (w1.ownsRow w.heap.size 5 1 v1 n (ys.map (Value.int .u8))) := hide (by simpa using ho1)
  clear ho hb0 ho1 hb1
  go_wp2_with fail
  refine (append_none _ _ _ _).mono ?_
  rintro e w2 ⟨rfl, rfl⟩
  go_wp2
  go_ret
  exact ⟨_, rfl, unhide HO, unhide HB⟩

/-- What is owned can be read. -/
theorem SB_owns {w : World} {base n : Nat} {v : Value} {zs : List Int} (hl : zs.length = n) (hz : ∀ i, 0 ≤ zs.getD i 0 ∧ zs.getD i 0 ≤ 255) (h : w.ownsRow base 5 1 v n (zs.map (Value.int .u8))) :
    ∃ a cap, v = .slice a n cap ∧ n ≤ cap ∧ SB w w.heap.size a n zs := by
  rcases h.2 with ⟨rfl, rfl⟩ | ⟨g, cap, cur, rfl, _, hg, hcap, _⟩
  · exact ⟨none, 0, rfl, Nat.le_refl _, hl, hz, fun _ => rfl, fun h => absurd h (Nat.lt_irrefl _)⟩
  · refine ⟨_, cap, rfl, hcap, hl, hz, fun h => by simp at h, fun _ => ⟨g, 0, rfl, (Array.getElem?_eq_some_iff.1 hg).1, fun i hi => ?_⟩⟩
    have := h.cellAt i (by omega)
    rw [Nat.zero_add, this]
    simp [List.getD, List.getElem?_eq_getElem (show i < zs.length by omega)]

/-! ### zzEqual -/
set_option maxHeartbeats 1000000 in
theorem equal_some (b1 o1 c1 b2 o2 c2 n : Nat) (zs : List Int) (w : World) (hn : n ≤ 1048576) (h1 : ∀ j, j < n → w.cell? ⟨b1, o1 + j, none⟩ = some (.int .u8 (zs.getD j 0))) (h2 : ∀ j, j < n → w.cell? ⟨b2, o2 + j, none⟩ = some (.int .u8 (zs.getD j 0))) :
    Calls Try.prog 9 #[.slice (some ⟨b1, o1, none⟩) n c1, .slice (some ⟨b2, o2, none⟩) n c2] w fun e w' => e = .returned (.bool true) ∧ ∃ q, w' = w.drewN q := by
  have hl2 : (n : Int) ≤ 1048576 := by omega
  have HC := hide h1
  have HD := hide h2
  clear h1 h2
  go_enter Try.func9, Try.ntmps9
  go_wp2
  go_loopw [5] (fun i wr => ∃ k : Nat, k ≤ n ∧ i = .int .i64 k ∧ ∃ q, wr = w.drewN q) (fun i _ => n - (intOf i).toNat)
  case atStart => exact ⟨0, Nat.zero_le _, rfl, 0, rfl⟩
  case round =>
    obtain ⟨k, hk, rfl, q, rfl⟩ := hrel
    by_cases hlt : k < n
    · obtain ⟨z, hz⟩ : ∃ z, z = zs.getD k 0 := ⟨_, rfl⟩
      have hc1 : w.cell? ⟨b1, o1 + k, none⟩ = some (.int .u8 z) := by rw [hz]; exact unhide HC k hlt
      have hc2 : w.cell? ⟨b2, o2 + k, none⟩ = some (.int .u8 z) := by rw [hz]; exact unhide HD k hlt
      have hkn : (k : Int) < (n : Int) := by omega
      clear hz
      go_wp2
      go_quiet (fail)
      go_wp2
      go_roundw
      case rel => exact ⟨k + 1, by omega, by go_num, _, rfl⟩
      case measure => simp [intOf]; omega
    · go_wp2
      go_ret
      exact ⟨rfl, _, rfl⟩

theorem equal_zero (a1 a2 : Option Addr) (c1 c2 : Nat) (w : World) :
    Calls Try.prog 9 #[.slice a1 0 c1, .slice a2 0 c2] w fun e w' => e = .returned (.bool true) ∧ ∃ q, w' = w.drewN q := by
  go_enter Try.func9, Try.ntmps9
  go_wp2
  refine wp_loop_rounds 1 ?_
  rw [rounds_succ]; go_wp2
  go_ret
  exact ⟨rfl, 0, rfl⟩

theorem equal_any (a1 a2 : Option Addr) (c1 c2 n B1 B2 : Nat) (zs : List Int) (w : World) (hn : n ≤ 1048576) (h1 : SB w B1 a1 n zs) (h2 : SB w B2 a2 n zs) :
    Calls Try.prog 9 #[.slice a1 n c1, .slice a2 n c2] w fun e w' => e = .returned (.bool true) ∧ ∃ q, w' = w.drewN q := by
  by_cases h0 : n = 0
  · subst h0
    exact equal_zero a1 a2 c1 c2 w
  · obtain ⟨b1, o1, rfl, _, hc1⟩ := h1.2.2.2 (by omega)
    obtain ⟨b2, o2, rfl, _, hc2⟩ := h2.2.2.2 (by omega)
    exact equal_some b1 o1 c1 b2 o2 c2 n zs w hn hc1 hc2
end Go.Proofs.Qxb6602005a
