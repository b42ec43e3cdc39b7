import Derived.Test.Qxb6602005aRead
namespace Go.Proofs.Qxb6602005a
open Go.RowKit

theorem zzR_yes (a b : Option Addr) (n m c1 c2 : Nat) (x y : Value) (h : n + m ≤ 1048576) (w : World) :
    Calls Try.prog 11 #[.slice a n c1, x, y, .slice b m c2] w fun e w' => e = .returned (.bool true) ∧ w' = w := by
  have h1 : (n : Int) + m ≤ 1048576 := by omega
  have h2 : (n : Int) ≤ 1048576 := by omega
  have h3 : (m : Int) ≤ 1048576 := by omega
  go_enter Try.func11, Try.ntmps11
  go_wp2
  go_ret
  exact ⟨rfl, rfl⟩
theorem zzR_no (a b : Option Addr) (n m c1 c2 : Nat) (x y : Value) (h : ¬ n + m ≤ 1048576) (w : World) :
    Calls Try.prog 11 #[.slice a n c1, x, y, .slice b m c2] w fun e w' => e = .returned (.bool false) ∧ w' = w := by
  by_cases h2 : (n : Int) ≤ 1048576
  · by_cases h3 : (m : Int) ≤ 1048576
    · have h1 : (1048576 : Int) < n + m := by omega
      go_enter Try.func11, Try.ntmps11
      go_wp2
      go_ret
      exact ⟨rfl, rfl⟩
    · go_enter Try.func11, Try.ntmps11
      go_wp2
      go_ret
      exact ⟨rfl, rfl⟩
  · go_enter Try.func11, Try.ntmps11
    go_wp2
    go_ret
    exact ⟨rfl, rfl⟩

theorem i64_and15 (n : Int) : bits .and .i64 n 15 = n % 16 := by
  have h15 : (BitVec.ofInt 64 15).toNat = 2 ^ 4 - 1 := by decide
  have key : (BitVec.ofInt 64 n &&& BitVec.ofInt 64 15).toNat = (n % ((2 ^ 64 : Nat) : Int)).toNat % 2 ^ 4 := by
    rw [BitVec.toNat_and, BitVec.toNat_ofInt, h15, Nat.and_two_pow_sub_one_eq_mod]
  show IntKind.i64.wrap ((BitVec.ofInt 64 n &&& BitVec.ofInt 64 15).toNat : Nat) = n % 16
  rw [key, IntKind.wrap_i64]
  omega

theorem hexDigit_ex (d : Int) (up : Bool) (h0 : 0 ≤ d) (h1 : d ≤ 15) (w : World) :
    Calls Try.prog 12 #[.int .i64 d, .bool up] w fun e w' => ∃ x, e = .returned (.int .u8 x) ∧ w = w' ∧ Hid (0 ≤ x ∧ x ≤ 255 ∧ hexd x = d) := by
  refine (hexDigit_any d up h0 h1 w).mono ?_
  rintro e w' ⟨rfl, rfl⟩
  obtain ⟨l, u⟩ := hexc_byte d up h0 h1
  exact ⟨_, rfl, rfl, hide ⟨l, u, hexd_hexc d up h0 h1⟩⟩

theorem list4_at (l : List Int) (x0 x1 x2 x3 : Int) (r : List Int) (j : Nat) (hj : j < 4) : (l ++ (x0 :: x1 :: x2 :: x3 :: r)).getD (l.length + j) 0 = [x0, x1, x2, x3].getD j 0 := by
  have h4 : j = 0 ∨ j = 1 ∨ j = 2 ∨ j = 3 := by omega
  rcases h4 with rfl | rfl | rfl | rfl <;> simp [List.getD]

theorem bytes_join (l r : List Int) (hl : ∀ i, 0 ≤ l.getD i 0 ∧ l.getD i 0 ≤ 255) (hr : ∀ i, 0 ≤ r.getD i 0 ∧ r.getD i 0 ≤ 255) (i : Nat) : 0 ≤ (l ++ r).getD i 0 ∧ (l ++ r).getD i 0 ≤ 255 := by
  by_cases h : i < l.length
  · have := hl i
    simpa [List.getD, List.getElem?_append_left h] using this
  · have := hr (i - l.length)
    simpa [List.getD, List.getElem?_append_right (show l.length ≤ i by omega)] using this

theorem bytes_cons (x : Int) (r : List Int) (hx : 0 ≤ x ∧ x ≤ 255) (hr : ∀ i, 0 ≤ r.getD i 0 ∧ r.getD i 0 ≤ 255) (i : Nat) : 0 ≤ (x :: r).getD i 0 ∧ (x :: r).getD i 0 ≤ 255 := by
  cases i with
  | zero => simpa using hx
  | succ i => simpa using hr i

set_option maxRecDepth 100000 in
set_option maxHeartbeats 2000000 in
theorem reads (a0 a3 : Option Addr) (n0 c0 n3 c3 : Nat) (z0 z3 : List Int) (v up : Int) (w : World) (hv0 : 0 ≤ v) (hv1 : v ≤ 65535) (_hu0 : 0 ≤ up) (_hu1 : up ≤ 255) (hn0 : n0 ≤ 65536) (hn3 : n3 ≤ 65536)
    (h0 : SB w w.heap.size a0 n0 z0) (h3 : SB w w.heap.size a3 n3 z3) (k0 : a0 = none → c0 = 0) (k3 : a3 = none → c3 = 0) :
    Calls Try.prog 4 #[.slice a0 n0 c0, .int .u16 v, .int .u8 up, .slice a3 n3 c3] w fun e w' => e = .returned (.bool true) ∧ Below w.heap.size w w' := by
  have i0 : (n0 : Int) ≤ 65536 := by omega
  have i3 : (n3 : Int) ≤ 65536 := by omega
  obtain ⟨t0, hi, hz0, hz1, hz2⟩ := info_parts info5
  have e15 := i64_and15
  go_enter Try.func4, Try.ntmps4
  go_wp2_with fail
  refine (zzR_yes _ _ _ _ _ _ _ _ (by omega) _).mono ?_
  rintro e w1 ⟨rfl, hw⟩
  obtain rfl : w = w1 := hw.symm
  clear hw
  go_wp2_with fail
  refine (clone_any a0 n0 c0 z0 _ h0 k0 (by omega)).mono ?_
  rintro e w1 ⟨b0, d0, rfl, hd0, _, s0, B1⟩
  have z1 := B1.size
  go_wp2_with fail
  refine (clone_any a3 n3 c3 z3 _ ((h3.carry B1).mono z1) k3 (by omega)).mono ?_
  rintro e w2 ⟨b3, d3, rfl, hd3, _, s3, B2⟩
  have z2 := B2.size
  go_wp2_with fail
  refine (concat_any b0 n0 d0 z0 _ (by omega) ((s0.carry B2).mono z2)).mono ?_
  rintro e w3 ⟨u, rfl, o1, B3⟩
  have z3' := B3.size
  go_wp2_with fail
  refine wp_loop_rounds 5 ?_
  rw [rounds_succ]
  go_wp2_with fail
  refine (hexDigit_ex _ _ (by omega) (by omega) _).mono ?_
  rintro e wx ⟨x0, rfl, rfl, X0⟩
  go_wp2_with (first
    | (at_builtin; refine wpList_append_own _ rfl _ _ 22 rfl w2.heap.size 5 t0 (.int .u8 0) 1 1 Try.underlying22 hi hz0 hz1 hz2 rfl (by decide) _ _ _ rfl (o1.alloc _) ⟨w3.heap.size, 0, none⟩ 1 1 [.int .u8 x0] rfl rfl ?c10 ?c20 ?c30 ?c40 ?c50 ?_))
  case c10 =>
    intro j u hj
    match j, hj with
    | 0, hj => simp at hj; subst hj; simp [Addr.add]
  case c20 => intro u hu; simp at hu; subst hu; rfl
  case c30 => unfold maxLen; omega
  case c40 => omega
  case c50 => simp; omega
  intro u1 w4 o2 G0 _
  have B4 : Below w2.heap.size w2 w4 := B3.trans (((Below.refl _ _).alloc (by omega) _).grown G0 (by simp; omega) (fun q hq => (o1.lt q hq).1))
  have s4 := B4.size
  clear G0 o1 B3
  go_wp2
  rw [rounds_succ]
  go_wp2_with fail
  refine (hexDigit_ex _ _ (by omega) (by omega) _).mono ?_
  rintro e wx ⟨x1, rfl, rfl, X1⟩
  go_wp2_with (first
    | (at_builtin; refine wpList_append_own _ rfl _ _ 22 rfl w2.heap.size 5 t0 (.int .u8 0) 1 1 Try.underlying22 hi hz0 hz1 hz2 rfl (by decide) _ _ _ rfl (o2.alloc _) ⟨w4.heap.size, 0, none⟩ 1 1 [.int .u8 x1] rfl rfl ?c11 ?c21 ?c31 ?c41 ?c51 ?_))
  case c11 =>
    intro j u hj
    match j, hj with
    | 0, hj => simp at hj; subst hj; simp [Addr.add]
  case c21 => intro u hu; simp at hu; subst hu; rfl
  case c31 => unfold maxLen; omega
  case c41 => omega
  case c51 => simp; omega
  intro u2 w5 o3 G1 _
  have B5 : Below w2.heap.size w2 w5 := B4.trans (((Below.refl _ _).alloc (by omega) _).grown G1 (by simp; omega) (fun q hq => (o2.lt q hq).1))
  have s5 := B5.size
  clear G1 o2 B4
  go_wp2
  rw [rounds_succ]
  go_wp2_with fail
  refine (hexDigit_ex _ _ (by omega) (by omega) _).mono ?_
  rintro e wx ⟨x2, rfl, rfl, X2⟩
  go_wp2_with (first
    | (at_builtin; refine wpList_append_own _ rfl _ _ 22 rfl w2.heap.size 5 t0 (.int .u8 0) 1 1 Try.underlying22 hi hz0 hz1 hz2 rfl (by decide) _ _ _ rfl (o3.alloc _) ⟨w5.heap.size, 0, none⟩ 1 1 [.int .u8 x2] rfl rfl ?c12 ?c22 ?c32 ?c42 ?c52 ?_))
  case c12 =>
    intro j u hj
    match j, hj with
    | 0, hj => simp at hj; subst hj; simp [Addr.add]
  case c22 => intro u hu; simp at hu; subst hu; rfl
  case c32 => unfold maxLen; omega
  case c42 => omega
  case c52 => simp; omega
  intro u3 w6 o4 G2 _
  have B6 : Below w2.heap.size w2 w6 := B5.trans (((Below.refl _ _).alloc (by omega) _).grown G2 (by simp; omega) (fun q hq => (o3.lt q hq).1))
  have s6 := B6.size
  clear G2 o3 B5
  go_wp2
  rw [rounds_succ]
  go_wp2_with fail
  refine (hexDigit_ex _ _ (by omega) (by omega) _).mono ?_
  rintro e wx ⟨x3, rfl, rfl, X3⟩
  go_wp2_with (first
    | (at_builtin; refine wpList_append_own _ rfl _ _ 22 rfl w2.heap.size 5 t0 (.int .u8 0) 1 1 Try.underlying22 hi hz0 hz1 hz2 rfl (by decide) _ _ _ rfl (o4.alloc _) ⟨w6.heap.size, 0, none⟩ 1 1 [.int .u8 x3] rfl rfl ?c13 ?c23 ?c33 ?c43 ?c53 ?_))
  case c13 =>
    intro j u hj
    match j, hj with
    | 0, hj => simp at hj; subst hj; simp [Addr.add]
  case c23 => intro u hu; simp at hu; subst hu; rfl
  case c33 => unfold maxLen; omega
  case c43 => omega
  case c53 => simp; omega
  intro u4 w7 o5 G3 _
  have B7 : Below w2.heap.size w2 w7 := B6.trans (((Below.refl _ _).alloc (by omega) _).grown G3 (by simp; omega) (fun q hq => (o4.lt q hq).1))
  have s7 := B7.size
  clear G3 o4 B6
  go_wp2
  rw [rounds_succ]
  go_wp2_with fail
  refine (append_any w2.heap.size _ _ _ b3 n3 d3 z3 _ o5 (by omega) (by omega) (s3.carry B7)).mono ?_
  rintro e w8 ⟨u5, rfl, o6, B8⟩
  obtain ⟨X0a, X0b, X0c⟩ := unhide X0
  obtain ⟨X1a, X1b, X1c⟩ := unhide X1
  obtain ⟨X2a, X2b, X2c⟩ := unhide X2
  obtain ⟨X3a, X3b, X3c⟩ := unhide X3
  have hz : ∀ i, 0 ≤ (z0 ++ (x0 :: x1 :: x2 :: x3 :: z3)).getD i 0 ∧ (z0 ++ (x0 :: x1 :: x2 :: x3 :: z3)).getD i 0 ≤ 255 :=
    bytes_join _ _ h0.2.1 (bytes_cons _ _ ⟨X0a, X0b⟩ (bytes_cons _ _ ⟨X1a, X1b⟩ (bytes_cons _ _ ⟨X2a, X2b⟩ (bytes_cons _ _ ⟨X3a, X3b⟩ h3.2.1))))
  have o7 : w8.ownsRow w2.heap.size 5 1 u5 (n0 + 4 + n3) ((z0 ++ (x0 :: x1 :: x2 :: x3 :: z3)).map (Value.int .u8)) := by
    have e : n0 + 1 + 1 + 1 + 1 + n3 = n0 + 4 + n3 := by omega
    rw [← e]
    simpa using o6
  obtain ⟨a8, d8, rfl, hd8, s8⟩ := SB_owns (by have := h0.1; have := h3.1; simp; omega) hz o7
  have hval : hv (fun j => (z0 ++ (x0 :: x1 :: x2 :: x3 :: z3)).getD (n0 + j) 0) 4 = v := by
    have h4 := fun j hj => list4_at z0 x0 x1 x2 x3 z3 j hj
    rw [h0.1] at h4
    simp only [hv, h4 0 (by decide), h4 1 (by decide), h4 2 (by decide), h4 3 (by decide)]
    simp [X0c, X1c, X2c, X3c]
    omega
  have hgood : ∀ j, j < 4 → 0 ≤ hexd ((z0 ++ (x0 :: x1 :: x2 :: x3 :: z3)).getD (n0 + j) 0) := by
    intro j hj
    have h4 := list4_at z0 x0 x1 x2 x3 z3 j hj
    rw [h0.1] at h4
    rw [h4]
    have h5 : j = 0 ∨ j = 1 ∨ j = 2 ∨ j = 3 := by omega
    rcases h5 with rfl | rfl | rfl | rfl <;> simp [X0c, X1c, X2c, X3c] <;> omega
  have HV := hide hval
  have HG := hide hgood
  have HB : Hid (Below w.heap.size w w8) := hide (B1.trans ((B2.mono z1).trans ((B7.trans B8).mono (by omega))))
  clear hval hgood hz o7 o6 o5 X0 X1 X2 X3 X0a X0b X0c X1a X1b X1c X2a X2b X2c X3a X3b X3c B1 B2 B7 B8 h0 h3 k0 k3 s0 s3
  go_wp2_with fail
  refine (zzhex4_good w8.heap.size a8 _ d8 n0 none 0 0 _ _ (by omega) hd8 (by omega) s8 (Nat.le_refl _) (unhide HG)).mono ?_
  rintro e w9 ⟨rfl, B9⟩
  rw [unhide HV]
  go_wp2
  go_ret
  exact ⟨by simp, (unhide HB).trans (B9.mono (by have := (unhide HB).size; omega))⟩

theorem reads_no (a0 a3 : Option Addr) (n0 c0 n3 c3 : Nat) (v up : Value) (w : World) (h : ¬ n0 + n3 ≤ 1048576) :
    Calls Try.prog 4 #[.slice a0 n0 c0, v, up, .slice a3 n3 c3] w fun e w' => e = .returned (.bool true) ∧ Below w.heap.size w w' := by
  go_enter Try.func4, Try.ntmps4
  go_wp2_with fail
  refine (zzR_no _ _ _ _ _ _ _ _ h _).mono ?_
  rintro e w1 ⟨rfl, rfl⟩
  go_wp2
  go_ret
  exact ⟨rfl, Below.refl _ _⟩

theorem reads_long (a0 a3 : Option Addr) (n0 c0 n3 c3 : Nat) (v up : Value) (w : World) (h : n0 + n3 ≤ 1048576) (h' : 65536 < n0 ∨ 65536 < n3) :
    Calls Try.prog 4 #[.slice a0 n0 c0, v, up, .slice a3 n3 c3] w fun e w' => e = .returned (.bool true) ∧ Below w.heap.size w w' := by
  by_cases h1 : (65536 : Int) < n0
  · go_enter Try.func4, Try.ntmps4
    go_wp2_with fail
    refine (zzR_yes _ _ _ _ _ _ _ _ h _).mono ?_
    rintro e w1 ⟨rfl, rfl⟩
    go_wp2
    go_ret
    exact ⟨rfl, Below.refl _ _⟩
  · have h2 : (65536 : Int) < n3 := by omega
    clear h'
    go_enter Try.func4, Try.ntmps4
    go_wp2_with fail
    refine (zzR_yes _ _ _ _ _ _ _ _ h _).mono ?_
    rintro e w1 ⟨rfl, rfl⟩
    go_wp2
    go_ret
    exact ⟨rfl, Below.refl _ _⟩
end Go.Proofs.Qxb6602005a
