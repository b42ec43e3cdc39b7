import Derived.Test.Qxb6602005aRead
namespace Go.Proofs.Qxb6602005a
open Go.RowKit

theorem zzM_yes (a b : Option Addr) (n m c1 c2 : Nat) (x : Value) (h : n + m ≤ 1048576) (w : World) :
    Calls Try.prog 5 #[.slice a n c1, x, .slice b m c2] w fun e w' => e = .returned (.bool true) ∧ w' = w := by
  have h1 : (n : Int) + m ≤ 1048576 := by omega
  have h2 : (n : Int) ≤ 1048576 := by omega
  have h3 : (m : Int) ≤ 1048576 := by omega
  go_enter Try.func5, Try.ntmps5
  go_wp2
  go_ret
  exact ⟨rfl, rfl⟩
theorem zzM_no (a b : Option Addr) (n m c1 c2 : Nat) (x : Value) (h : ¬ n + m ≤ 1048576) (w : World) :
    Calls Try.prog 5 #[.slice a n c1, x, .slice b m c2] w fun e w' => e = .returned (.bool false) ∧ w' = w := by
  by_cases h2 : (n : Int) ≤ 1048576
  · by_cases h3 : (m : Int) ≤ 1048576
    · have h1 : (1048576 : Int) < n + m := by omega
      go_enter Try.func5, Try.ntmps5
      go_wp2
      go_ret
      exact ⟨rfl, rfl⟩
    · go_enter Try.func5, Try.ntmps5
      go_wp2
      go_ret
      exact ⟨rfl, rfl⟩
  · go_enter Try.func5, Try.ntmps5
    go_wp2
    go_ret
    exact ⟨rfl, rfl⟩

theorem model_no (a0 a2 : Option Addr) (n0 c0 n2 c2 : Nat) (p : Value) (w : World) (h : ¬ n0 + n2 ≤ 1048576) :
    Calls Try.prog 3 #[.slice a0 n0 c0, p, .slice a2 n2 c2] w fun e w' => e = .returned (.bool true) ∧ Below w.heap.size w w' := by
  go_enter Try.func3, Try.ntmps3
  go_wp2_with fail
  refine (zzM_no _ _ _ _ _ _ _ h _).mono ?_
  rintro e w1 ⟨rfl, rfl⟩
  go_wp2
  go_ret
  exact ⟨rfl, Below.refl _ _⟩

theorem model_long (a0 a2 : Option Addr) (n0 c0 n2 c2 : Nat) (p : Int) (w : World) (h : n0 + n2 ≤ 1048576) (h' : 524288 < n0 ∨ 524288 < n2 ∨ p < 0) :
    Calls Try.prog 3 #[.slice a0 n0 c0, .int .i64 p, .slice a2 n2 c2] w fun e w' => e = .returned (.bool true) ∧ Below w.heap.size w w' := by
  by_cases h1 : (524288 : Int) < n0
  · go_enter Try.func3, Try.ntmps3
    go_wp2_with fail
    refine (zzM_yes _ _ _ _ _ _ _ h _).mono ?_
    rintro e w1 ⟨rfl, rfl⟩
    go_wp2
    go_ret
    exact ⟨rfl, Below.refl _ _⟩
  · by_cases h2 : (524288 : Int) < n2
    · clear h'
      go_enter Try.func3, Try.ntmps3
      go_wp2_with fail
      refine (zzM_yes _ _ _ _ _ _ _ h _).mono ?_
      rintro e w1 ⟨rfl, rfl⟩
      go_wp2
      go_ret
      exact ⟨rfl, Below.refl _ _⟩
    · have h3 : p < 0 := by omega
      clear h'
      go_enter Try.func3, Try.ntmps3
      go_wp2_with fail
      refine (zzM_yes _ _ _ _ _ _ _ h _).mono ?_
      rintro e w1 ⟨rfl, rfl⟩
      go_wp2
      go_ret
      exact ⟨rfl, Below.refl _ _⟩

theorem good1 {z : List Int} {pos : Nat} {x0 x1 x2 x3 : Int} (E : x0 = z.getD (pos + 0) 0 ∧ x1 = z.getD (pos + 1) 0 ∧ x2 = z.getD (pos + 2) 0 ∧ x3 = z.getD (pos + 3) 0) (h0 : 0 ≤ hexd x0) : ∀ j, j < 1 → 0 ≤ hexd (z.getD (pos + j) 0) := by
  intro j hj
  obtain ⟨e0, e1, e2, e3⟩ := E
  have h5 : j = 0 := by omega
  subst h5
  rw [← e0]; exact h0

theorem good2 {z : List Int} {pos : Nat} {x0 x1 x2 x3 : Int} (E : x0 = z.getD (pos + 0) 0 ∧ x1 = z.getD (pos + 1) 0 ∧ x2 = z.getD (pos + 2) 0 ∧ x3 = z.getD (pos + 3) 0) (h0 : 0 ≤ hexd x0) (h1 : 0 ≤ hexd x1) : ∀ j, j < 2 → 0 ≤ hexd (z.getD (pos + j) 0) := by
  intro j hj
  obtain ⟨e0, e1, e2, e3⟩ := E
  have h5 : j = 0 ∨ j = 1 := by omega
  rcases h5 with rfl | rfl
  · rw [← e0]; exact h0
  · rw [← e1]; exact h1

theorem good3 {z : List Int} {pos : Nat} {x0 x1 x2 x3 : Int} (E : x0 = z.getD (pos + 0) 0 ∧ x1 = z.getD (pos + 1) 0 ∧ x2 = z.getD (pos + 2) 0 ∧ x3 = z.getD (pos + 3) 0) (h0 : 0 ≤ hexd x0) (h1 : 0 ≤ hexd x1) (h2 : 0 ≤ hexd x2) : ∀ j, j < 3 → 0 ≤ hexd (z.getD (pos + j) 0) := by
  intro j hj
  obtain ⟨e0, e1, e2, e3⟩ := E
  have h5 : j = 0 ∨ j = 1 ∨ j = 2 := by omega
  rcases h5 with rfl | rfl | rfl
  · rw [← e0]; exact h0
  · rw [← e1]; exact h1
  · rw [← e2]; exact h2

theorem good4 {z : List Int} {pos : Nat} {x0 x1 x2 x3 : Int} (E : x0 = z.getD (pos + 0) 0 ∧ x1 = z.getD (pos + 1) 0 ∧ x2 = z.getD (pos + 2) 0 ∧ x3 = z.getD (pos + 3) 0) (h0 : 0 ≤ hexd x0) (h1 : 0 ≤ hexd x1) (h2 : 0 ≤ hexd x2) (h3 : 0 ≤ hexd x3) : ∀ j, j < 4 → 0 ≤ hexd (z.getD (pos + j) 0) := by
  intro j hj
  obtain ⟨e0, e1, e2, e3⟩ := E
  have h5 : j = 0 ∨ j = 1 ∨ j = 2 ∨ j = 3 := by omega
  rcases h5 with rfl | rfl | rfl | rfl
  · rw [← e0]; exact h0
  · rw [← e1]; exact h1
  · rw [← e2]; exact h2
  · rw [← e3]; exact h3

theorem hv4 {z : List Int} {pos : Nat} {x0 x1 x2 x3 : Int} (E : x0 = z.getD (pos + 0) 0 ∧ x1 = z.getD (pos + 1) 0 ∧ x2 = z.getD (pos + 2) 0 ∧ x3 = z.getD (pos + 3) 0) : hv (fun j => z.getD (pos + j) 0) 4 = hexd x0 * 4096 + hexd x1 * 256 + hexd x2 * 16 + hexd x3 := by
  obtain ⟨e0, e1, e2, e3⟩ := E
  simp only [hv]
  rw [← e0, ← e1, ← e2, ← e3]
  omega

set_option maxRecDepth 100000 in
set_option maxHeartbeats 4000000 in
theorem model_any (a0 a2 : Option Addr) (n0 c0 n2 c2 : Nat) (p : Int) (z0 z2 : List Int) (w : World) (hp0 : 0 ≤ p) (hp1 : p ≤ 9223372036854775807) (hn0 : n0 ≤ 524288) (hn2 : n2 ≤ 524288)
    (h0 : SB w w.heap.size a0 n0 z0) (h2 : SB w w.heap.size a2 n2 z2) (k0 : a0 = none → c0 = 0) (k2 : a2 = none → c2 = 0) :
    Calls Try.prog 3 #[.slice a0 n0 c0, .int .i64 p, .slice a2 n2 c2] w fun e w' => e = .returned (.bool true) ∧ Below w.heap.size w w' := by
  have i0 : (n0 : Int) ≤ 524288 := by omega
  have i2 : (n2 : Int) ≤ 524288 := by omega
  go_enter Try.func3, Try.ntmps3
  go_wp2_with fail
  refine (zzM_yes _ _ _ _ _ _ _ (by omega) _).mono ?_
  rintro e w1 ⟨rfl, hw⟩
  obtain rfl : w = w1 := hw.symm
  clear hw
  go_wp2_with fail
  refine (clone_any a0 n0 c0 z0 _ h0 k0 (by omega)).mono ?_
  rintro e w1 ⟨b0, d0, rfl, hd0, _, s0, B1⟩
  have z1 := B1.size
  go_wp2_with fail
  refine (clone_any a2 n2 c2 z2 _ ((h2.carry B1).mono z1) k2 (by omega)).mono ?_
  rintro e w2 ⟨b2, d2, rfl, hd2, _, s2, B2⟩
  have z2' := B2.size
  go_wp2_with fail
  refine (concat_any b2 n2 d2 z2 _ (by omega) s2).mono ?_
  rintro e w3 ⟨u, rfl, o1, B3⟩
  have z3' := B3.size
  obtain ⟨b3, d3, rfl, hd3, s3⟩ := SB_owns s2.1 s2.2.1 o1
  have s0' : SB w3 w3.heap.size b0 n0 z0 := ((s0.carry B2).mono z2' |>.carry B3).mono z3'
  have s2' : SB w3 w3.heap.size b2 n2 z2 := (s2.carry B3).mono z3'
  have HB : Hid (Below w.heap.size w w3) := hide (B1.trans ((B2.mono z1).trans (B3.mono (by omega))))
  have hq := eq_nil b2 n2 d2
  clear o1 B1 B2 B3 s0 s2 h0 h2 k0 k2
  by_cases hshort : (n0 : Int) - p < 4
  · by_cases hpl : (n0 : Int) < p
    all_goals
      go_wp2_with fail
      refine (zzhex4_short b0 n0 d0 p b2 n2 d2 _ (by omega) hp0 hp1 hshort).mono ?_
      rintro e w4 ⟨rfl, B4⟩
      have HB4 : Hid (Below w.heap.size w w4) := hide ((unhide HB).trans (B4.mono (by have := (unhide HB).size; omega)))
      have s3b := s3.carry B4
      have s2b := s2'.carry B4
      clear B4
      go_wp2_with fail
      refine (equal_any b2 b3 d2 d3 n2 _ _ z2 _ (by omega) s2b s3b).mono ?_
      rintro e w5 ⟨rfl, q, rfl⟩
      go_wp2
      go_ret
      exact ⟨by simp, below_drewN (unhide HB4) _⟩
  · obtain ⟨pos, rfl⟩ := Int.eq_ofNat_of_zero_le hp0
    have hlong : pos + 4 ≤ n0 := by omega
    have hl2 : (pos : Int) + 4 ≤ n0 := by omega
    obtain ⟨b, off, rfl, hbl, hcell⟩ := s0'.2.2.2 (by omega)
    obtain ⟨x0, e0⟩ : ∃ x, x = z0.getD (pos + 0) 0 := ⟨_, rfl⟩
    obtain ⟨x1, e1⟩ : ∃ x, x = z0.getD (pos + 1) 0 := ⟨_, rfl⟩
    obtain ⟨x2, e2⟩ : ∃ x, x = z0.getD (pos + 2) 0 := ⟨_, rfl⟩
    obtain ⟨x3, e3⟩ : ∃ x, x = z0.getD (pos + 3) 0 := ⟨_, rfl⟩
    have y0 : w3.cell? ⟨b, off + pos, none⟩ = some (.int .u8 x0) := by rw [e0]; exact hcell (pos + 0) (by omega)
    have y1 : w3.cell? ⟨b, off + (pos + 1), none⟩ = some (.int .u8 x1) := by rw [e1]; exact hcell (pos + 1) (by omega)
    have y2 : w3.cell? ⟨b, off + (pos + 2), none⟩ = some (.int .u8 x2) := by rw [e2]; exact hcell (pos + 2) (by omega)
    have y3 : w3.cell? ⟨b, off + (pos + 3), none⟩ = some (.int .u8 x3) := by rw [e3]; exact hcell (pos + 3) (by omega)
    have E := hide (And.intro e0 (And.intro e1 (And.intro e2 e3)))
    clear e0 e1 e2 e3 hcell
    by_cases g0 : hexd x0 < 0
    · go_wp2_with fail
      refine (zzhex4_bad w3.heap.size _ n0 d0 pos 0 b2 n2 d2 z0 _ (by omega) hd0 hlong (by decide) s0' (Nat.le_refl _) (fun j hj => absurd hj (Nat.not_lt_zero _)) (by rw [← (unhide E).1]; exact g0)).mono ?_
      rintro e w4 ⟨rfl, B4⟩
      have HB4 : Hid (Below w.heap.size w w4) := hide ((unhide HB).trans (B4.mono (by have := (unhide HB).size; omega)))
      have s3b := s3.carry B4
      have s2b := s2'.carry B4
      have v0 := (B4.cell (p := ⟨b, off + pos, none⟩) hbl).trans y0
      have v1 := (B4.cell (p := ⟨b, off + (pos + 1), none⟩) hbl).trans y1
      have v2 := (B4.cell (p := ⟨b, off + (pos + 2), none⟩) hbl).trans y2
      have v3 := (B4.cell (p := ⟨b, off + (pos + 3), none⟩) hbl).trans y3
      clear B4 y0 y1 y2 y3
      go_wp2_with fail
      refine (equal_any b2 b3 d2 d3 n2 _ _ z2 _ (by omega) s2b s3b).mono ?_
      rintro e w5 ⟨rfl, q, rfl⟩
      go_wp2_with fail
      refine (hexValue_any _ _).mono ?_
      rintro e w5 ⟨rfl, rfl⟩
      go_wp2_with fail
      refine (hexValue_any _ _).mono ?_
      rintro e w5 ⟨rfl, rfl⟩
      go_wp2_with fail
      refine (hexValue_any _ _).mono ?_
      rintro e w5 ⟨rfl, rfl⟩
      go_wp2_with fail
      refine (hexValue_any _ _).mono ?_
      rintro e w5 ⟨rfl, rfl⟩
      go_wp2
      go_ret
      exact ⟨by simp, below_drewN (unhide HB4) _⟩
    by_cases g1 : hexd x1 < 0
    · go_wp2_with fail
      refine (zzhex4_bad w3.heap.size _ n0 d0 pos 1 b2 n2 d2 z0 _ (by omega) hd0 hlong (by decide) s0' (Nat.le_refl _) (good1 (unhide E) (by omega)) (by rw [← (unhide E).2.1]; exact g1)).mono ?_
      rintro e w4 ⟨rfl, B4⟩
      have HB4 : Hid (Below w.heap.size w w4) := hide ((unhide HB).trans (B4.mono (by have := (unhide HB).size; omega)))
      have s3b := s3.carry B4
      have s2b := s2'.carry B4
      have v0 := (B4.cell (p := ⟨b, off + pos, none⟩) hbl).trans y0
      have v1 := (B4.cell (p := ⟨b, off + (pos + 1), none⟩) hbl).trans y1
      have v2 := (B4.cell (p := ⟨b, off + (pos + 2), none⟩) hbl).trans y2
      have v3 := (B4.cell (p := ⟨b, off + (pos + 3), none⟩) hbl).trans y3
      clear B4 y0 y1 y2 y3
      go_wp2_with fail
      refine (equal_any b2 b3 d2 d3 n2 _ _ z2 _ (by omega) s2b s3b).mono ?_
      rintro e w5 ⟨rfl, q, rfl⟩
      go_wp2_with fail
      refine (hexValue_any _ _).mono ?_
      rintro e w5 ⟨rfl, rfl⟩
      go_wp2_with fail
      refine (hexValue_any _ _).mono ?_
      rintro e w5 ⟨rfl, rfl⟩
      go_wp2_with fail
      refine (hexValue_any _ _).mono ?_
      rintro e w5 ⟨rfl, rfl⟩
      go_wp2_with fail
      refine (hexValue_any _ _).mono ?_
      rintro e w5 ⟨rfl, rfl⟩
      go_wp2
      go_ret
      exact ⟨by simp, below_drewN (unhide HB4) _⟩
    by_cases g2 : hexd x2 < 0
    · go_wp2_with fail
      refine (zzhex4_bad w3.heap.size _ n0 d0 pos 2 b2 n2 d2 z0 _ (by omega) hd0 hlong (by decide) s0' (Nat.le_refl _) (good2 (unhide E) (by omega) (by omega)) (by rw [← (unhide E).2.2.1]; exact g2)).mono ?_
      rintro e w4 ⟨rfl, B4⟩
      have HB4 : Hid (Below w.heap.size w w4) := hide ((unhide HB).trans (B4.mono (by have := (unhide HB).size; omega)))
      have s3b := s3.carry B4
      have s2b := s2'.carry B4
      have v0 := (B4.cell (p := ⟨b, off + pos, none⟩) hbl).trans y0
      have v1 := (B4.cell (p := ⟨b, off + (pos + 1), none⟩) hbl).trans y1
      have v2 := (B4.cell (p := ⟨b, off + (pos + 2), none⟩) hbl).trans y2
      have v3 := (B4.cell (p := ⟨b, off + (pos + 3), none⟩) hbl).trans y3
      clear B4 y0 y1 y2 y3
      go_wp2_with fail
      refine (equal_any b2 b3 d2 d3 n2 _ _ z2 _ (by omega) s2b s3b).mono ?_
      rintro e w5 ⟨rfl, q, rfl⟩
      go_wp2_with fail
      refine (hexValue_any _ _).mono ?_
      rintro e w5 ⟨rfl, rfl⟩
      go_wp2_with fail
      refine (hexValue_any _ _).mono ?_
      rintro e w5 ⟨rfl, rfl⟩
      go_wp2_with fail
      refine (hexValue_any _ _).mono ?_
      rintro e w5 ⟨rfl, rfl⟩
      go_wp2_with fail
      refine (hexValue_any _ _).mono ?_
      rintro e w5 ⟨rfl, rfl⟩
      go_wp2
      go_ret
      exact ⟨by simp, below_drewN (unhide HB4) _⟩
    by_cases g3 : hexd x3 < 0
    · go_wp2_with fail
      refine (zzhex4_bad w3.heap.size _ n0 d0 pos 3 b2 n2 d2 z0 _ (by omega) hd0 hlong (by decide) s0' (Nat.le_refl _) (good3 (unhide E) (by omega) (by omega) (by omega)) (by rw [← (unhide E).2.2.2]; exact g3)).mono ?_
      rintro e w4 ⟨rfl, B4⟩
      have HB4 : Hid (Below w.heap.size w w4) := hide ((unhide HB).trans (B4.mono (by have := (unhide HB).size; omega)))
      have s3b := s3.carry B4
      have s2b := s2'.carry B4
      have v0 := (B4.cell (p := ⟨b, off + pos, none⟩) hbl).trans y0
      have v1 := (B4.cell (p := ⟨b, off + (pos + 1), none⟩) hbl).trans y1
      have v2 := (B4.cell (p := ⟨b, off + (pos + 2), none⟩) hbl).trans y2
      have v3 := (B4.cell (p := ⟨b, off + (pos + 3), none⟩) hbl).trans y3
      clear B4 y0 y1 y2 y3
      go_wp2_with fail
      refine (equal_any b2 b3 d2 d3 n2 _ _ z2 _ (by omega) s2b s3b).mono ?_
      rintro e w5 ⟨rfl, q, rfl⟩
      go_wp2_with fail
      refine (hexValue_any _ _).mono ?_
      rintro e w5 ⟨rfl, rfl⟩
      go_wp2_with fail
      refine (hexValue_any _ _).mono ?_
      rintro e w5 ⟨rfl, rfl⟩
      go_wp2_with fail
      refine (hexValue_any _ _).mono ?_
      rintro e w5 ⟨rfl, rfl⟩
      go_wp2_with fail
      refine (hexValue_any _ _).mono ?_
      rintro e w5 ⟨rfl, rfl⟩
      go_wp2
      go_ret
      exact ⟨by simp, below_drewN (unhide HB4) _⟩
    have l0 := hexd_le x0
    have l1 := hexd_le x1
    have l2 := hexd_le x2
    have l3 := hexd_le x3
    · go_wp2_with fail
      refine (zzhex4_good w3.heap.size _ n0 d0 pos b2 n2 d2 z0 _ (by omega) hd0 hlong s0' (Nat.le_refl _) (good4 (unhide E) (by omega) (by omega) (by omega) (by omega))).mono ?_
      rw [hv4 (unhide E)]
      rintro e w4 ⟨rfl, B4⟩
      have HB4 : Hid (Below w.heap.size w w4) := hide ((unhide HB).trans (B4.mono (by have := (unhide HB).size; omega)))
      have s3b := s3.carry B4
      have s2b := s2'.carry B4
      have v0 := (B4.cell (p := ⟨b, off + pos, none⟩) hbl).trans y0
      have v1 := (B4.cell (p := ⟨b, off + (pos + 1), none⟩) hbl).trans y1
      have v2 := (B4.cell (p := ⟨b, off + (pos + 2), none⟩) hbl).trans y2
      have v3 := (B4.cell (p := ⟨b, off + (pos + 3), none⟩) hbl).trans y3
      clear B4 y0 y1 y2 y3
      go_wp2_with fail
      refine (equal_any b2 b3 d2 d3 n2 _ _ z2 _ (by omega) s2b s3b).mono ?_
      rintro e w5 ⟨rfl, q, rfl⟩
      go_wp2_with fail
      refine (hexValue_any _ _).mono ?_
      rintro e w5 ⟨rfl, rfl⟩
      go_wp2_with fail
      refine (hexValue_any _ _).mono ?_
      rintro e w5 ⟨rfl, rfl⟩
      go_wp2_with fail
      refine (hexValue_any _ _).mono ?_
      rintro e w5 ⟨rfl, rfl⟩
      go_wp2_with fail
      refine (hexValue_any _ _).mono ?_
      rintro e w5 ⟨rfl, rfl⟩
      go_wp2
      go_ret
      exact ⟨by simp, below_drewN (unhide HB4) _⟩
end Go.Proofs.Qxb6602005a
