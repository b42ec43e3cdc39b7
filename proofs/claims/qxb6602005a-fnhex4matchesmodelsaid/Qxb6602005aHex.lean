import Derived.Test.Qxb6602005aMem
namespace Go.Proofs.Qxb6602005a
open Go.RowKit

theorem ret_int {k : IntKind} {a b : Int} (h : a = b) : Ending.returned (.int k a) = .returned (.int k b) := by rw [h]

/-- The value of a hexadecimal digit; -1 for any other byte. -/
def hexd (c : Int) : Int := if 48 ≤ c ∧ c ≤ 57 then c - 48 else if 97 ≤ c ∧ c ≤ 102 then c - 87 else if 65 ≤ c ∧ c ≤ 70 then c - 55 else -1

def dtab : List Int := [48, 49, 50, 51, 52, 53, 54, 55, 56, 57, 97, 98, 99, 100, 101, 102, 48, 49, 50, 51, 52, 53, 54, 55, 56, 57, 65, 66, 67, 68, 69, 70]

abbrev dg : ByteArray := { data := #[48, 49, 50, 51, 52, 53, 54, 55, 56, 57, 97, 98, 99, 100, 101, 102, 48, 49, 50, 51, 52, 53, 54, 55, 56, 57, 65, 66, 67, 68, 69, 70] }
theorem dg_size : dg.size = 32 := rfl
theorem dg_at' : ∀ k : Fin 32, ((dg[k.val]'(by rw [dg_size]; exact k.isLt)).toNat : Int) = dtab.getD k.val 0 := by decide
theorem dg_at (k : Nat) (h : k < dg.size) : ((dg[k]'h).toNat : Int) = dtab.getD k 0 := dg_at' ⟨k, h⟩

theorem hexd_at : ∀ k, k < 32 → hexd (dtab.getD k 0) = ((k % 16 : Nat) : Int) := by decide

theorem hexd_no (c : Int) (h : ∀ j, j < 32 → dtab.getD j 0 ≠ c) : hexd c = -1 := by
  have h0 := h 0 (by decide); have h1 := h 1 (by decide); have h2 := h 2 (by decide); have h3 := h 3 (by decide)
  have h4 := h 4 (by decide); have h5 := h 5 (by decide); have h6 := h 6 (by decide); have h7 := h 7 (by decide)
  have h8 := h 8 (by decide); have h9 := h 9 (by decide); have h10 := h 10 (by decide); have h11 := h 11 (by decide)
  have h12 := h 12 (by decide); have h13 := h 13 (by decide); have h14 := h 14 (by decide); have h15 := h 15 (by decide)
  have h26 := h 26 (by decide); have h27 := h 27 (by decide); have h28 := h 28 (by decide); have h29 := h 29 (by decide)
  have h30 := h 30 (by decide); have h31 := h 31 (by decide)
  simp [dtab] at h0 h1 h2 h3 h4 h5 h6 h7 h8 h9 h10 h11 h12 h13 h14 h15 h26 h27 h28 h29 h30 h31
  unfold hexd
  rw [if_neg (by omega), if_neg (by omega), if_neg (by omega)]

set_option maxHeartbeats 1000000 in
theorem hexValue_any (c : Int) (w : World) :
    Calls Try.prog 10 #[.int .u8 c] w fun e w' => e = .returned (.int .i64 (hexd c)) ∧ w' = w := by
  go_enter Try.func10, Try.ntmps10
  go_wp2
  go_loop [3] (fun i => ∃ k : Nat, k ≤ 32 ∧ i = .int .i64 k ∧ Hid (∀ j, j < k → dtab.getD j 0 ≠ c)) (fun i => 32 - (intOf i).toNat)
  case atStart => exact ⟨0, Nat.zero_le _, rfl, hide (fun j hj => absurd hj (Nat.not_lt_zero _))⟩
  case round =>
    obtain ⟨k, hk, rfl, hno⟩ := hrel
    by_cases hlt : k < 32
    · go_wp2
      · have hb : (((dg[k]'hlt).toNat : Int) == c) = true := by assumption
        rw [dg_at] at hb
        go_ret
        refine ⟨ret_int ?_, rfl⟩
        rw [← eq_of_beq hb, hexd_at k hlt]
        omega
      · have hb : (((dg[k]'hlt).toNat : Int) == c) = false := by assumption
        rw [dg_at] at hb
        go_round
        case rel =>
          refine ⟨k + 1, by omega, by go_num, ?_⟩
          intro j hj
          by_cases hjk : j < k
          · exact unhide hno j hjk
          · obtain rfl : j = k := by omega
            exact ne_of_beq_false hb
        case measure => simp [intOf]; omega
    · go_wp2
      go_ret
      have := hexd_no c (fun j hj => unhide hno j (by omega))
      rw [this]
      exact ⟨rfl, rfl⟩

/-- The byte that zzHexDigit writes. -/
def hexc (d : Int) (up : Bool) : Int := if d < 10 then 48 + d else if up then 55 + d else 87 + d

theorem hexd_hexc (d : Int) (up : Bool) (h0 : 0 ≤ d) (h1 : d ≤ 15) : hexd (hexc d up) = d := by
  unfold hexc
  by_cases h : d < 10
  · rw [if_pos h]; unfold hexd; rw [if_pos (by omega)]; omega
  · rw [if_neg h]
    cases up
    · simp only [Bool.false_eq_true, if_false]; unfold hexd; rw [if_neg (by omega), if_pos (by omega)]; omega
    · simp only [if_true]; unfold hexd; rw [if_neg (by omega), if_neg (by omega), if_pos (by omega)]; omega

theorem hexc_byte (d : Int) (up : Bool) (h0 : 0 ≤ d) (h1 : d ≤ 15) : 0 ≤ hexc d up ∧ hexc d up ≤ 255 := by
  unfold hexc; split
  · omega
  · split <;> omega

theorem hexc_lo (d : Int) (up : Bool) (h : d < 10) : hexc d up = 48 + d := by unfold hexc; rw [if_pos h]
theorem hexc_hi (d : Int) (h : 10 ≤ d) : hexc d false = 97 + d - 10 := by unfold hexc; rw [if_neg (by omega)]; simp; omega
theorem hexc_up (d : Int) (h : 10 ≤ d) : hexc d true = 65 + d - 10 := by unfold hexc; rw [if_neg (by omega)]; simp; omega

theorem hexDigit_any (d : Int) (up : Bool) (h0 : 0 ≤ d) (h1 : d ≤ 15) (w : World) :
    Calls Try.prog 12 #[.int .i64 d, .bool up] w fun e w' => e = .returned (.int .u8 (hexc d up)) ∧ w' = w := by
  by_cases h : d < 10
  · rw [hexc_lo d up h]
    go_enter Try.func12, Try.ntmps12
    go_wp2
    go_ret
    exact ⟨rfl, rfl⟩
  · cases up
    · rw [hexc_hi d (by omega)]
      go_enter Try.func12, Try.ntmps12
      go_wp2
      go_ret
      exact ⟨rfl, rfl⟩
    · rw [hexc_up d (by omega)]
      go_enter Try.func12, Try.ntmps12
      go_wp2
      go_ret
      exact ⟨rfl, rfl⟩

/-! ### hex4 -/
/-- The number that the first k digits make. -/
def hv (c : Nat → Int) : Nat → Int
  | 0 => 0
  | k + 1 => hv c k * 16 + hexd (c k)

set_option maxHeartbeats 1000000 in
theorem hex4_short (R : Nat) (a : Option Addr) (n cap : Nat) (pos : Int) (w : World) (hn : n ≤ 4194304) (hp0 : 0 ≤ pos) (hp1 : pos ≤ 9223372036854775807) (hshort : (n : Int) - pos < 4)
    (r0 : w.cell? ⟨R, 0, none⟩ = some (.slice a n cap)) (r1 : w.cell? ⟨R, 1, none⟩ = some (.int .i64 pos)) :
    Calls Try.prog 14 #[.pointer (some ⟨R, 0, none⟩)] w fun e w' => e = .returned (.tuple #[.int .i32 0, .bool false]) ∧ ∃ q, w' = w.drewN q := by
  have hl2 : (n : Int) ≤ 4194304 := by omega
  go_enter Try.func14, Try.ntmps14
  go_wp2
  go_quiet (fail)
  go_wp2
  go_ret2
  exact ⟨rfl, _, rfl⟩

theorem hexd_09 {z : Int} (h0 : 48 ≤ z) (h1 : z ≤ 57) : hexd z = z - 48 := by unfold hexd; rw [if_pos ⟨h0, h1⟩]
theorem hexd_af {z : Int} (h0 : 97 ≤ z) (h1 : z ≤ 102) : hexd z = z - 97 + 10 := by unfold hexd; rw [if_neg (by omega), if_pos ⟨h0, h1⟩]; omega
theorem hexd_AF {z : Int} (h0 : 65 ≤ z) (h1 : z ≤ 70) : hexd z = z - 65 + 10 := by unfold hexd; rw [if_neg (by omega), if_neg (by omega), if_pos ⟨h0, h1⟩]; omega
theorem hexd_ways {z : Int} (h : 0 ≤ hexd z) : (48 ≤ z ∧ z ≤ 57) ∨ (97 ≤ z ∧ z ≤ 102) ∨ (65 ≤ z ∧ z ≤ 70) := by
  unfold hexd at h
  by_cases h1 : 48 ≤ z ∧ z ≤ 57
  · exact .inl h1
  · rw [if_neg h1] at h
    by_cases h2 : 97 ≤ z ∧ z ≤ 102
    · exact .inr (.inl h2)
    · rw [if_neg h2] at h
      by_cases h3 : 65 ≤ z ∧ z ≤ 70
      · exact .inr (.inr h3)
      · rw [if_neg h3] at h; omega
theorem hexd_le (z : Int) : hexd z ≤ 15 := by
  unfold hexd; split
  · omega
  · split
    · omega
    · split <;> omega

theorem hv_bd (c : Nat → Int) (m : Nat) (hg : ∀ j, j < m → 0 ≤ hexd (c j)) : ∀ k, k ≤ m → 0 ≤ hv c k ∧ hv c k < 16 ^ k
  | 0, _ => ⟨Int.le_refl _, by simp [hv]⟩
  | k + 1, h => by
    have ih := hv_bd c m hg k (by omega)
    have h1 := hg k (by omega)
    have h2 := hexd_le (c k)
    have h3 : (16 : Int) ^ (k + 1) = 16 ^ k * 16 := by rw [Int.pow_succ]
    unfold hv
    rw [h3]
    omega
theorem hv_bd' (c : Nat → Int) (m : Nat) (hg : ∀ j, j < m → 0 ≤ hexd (c j)) (k : Nat) (hk : k ≤ m) (h : k < 4) : 0 ≤ hv c k ∧ hv c k < 4096 := by
  have ih := hv_bd c m hg k hk
  refine ⟨ih.1, ?_⟩
  have h4 : k = 0 ∨ k = 1 ∨ k = 2 ∨ k = 3 := by omega
  rcases h4 with rfl | rfl | rfl | rfl <;> simp at ih <;> omega

theorem or_i32 (x d : Int) (h0 : 0 ≤ x) (h1 : x < 4096) (h2 : 0 ≤ d) (h3 : d < 16) : bits .or .i32 (x * 16) d = x * 16 + d := by
  obtain ⟨X, rfl⟩ := Int.eq_ofNat_of_zero_le h0
  obtain ⟨D, rfl⟩ := Int.eq_ofNat_of_zero_le h2
  have e : ((X : Int) * 16) = ((X * 16 : Nat) : Int) := by omega
  rw [e]
  show IntKind.i32.wrap ((BitVec.ofInt 32 ((X * 16 : Nat) : Int) ||| BitVec.ofInt 32 (D : Int)).toNat : Int) = _
  rw [BitVec.toNat_or, ofInt_u32 _ (by omega), ofInt_u32 _ (by omega), Nat.or_comm, nat_join4' _ _ (by omega) (by omega), IntKind.wrap_i32]
  omega

set_option maxHeartbeats 1000000 in
theorem hex4_good (R b off n cap : Nat) (pos : Nat) (c : Nat → Int) (w : World) (hn : n ≤ 4194304) (hcap : n ≤ cap) (hlong : pos + 4 ≤ n)
    (r0 : w.cell? ⟨R, 0, none⟩ = some (.slice (some ⟨b, off, none⟩) n cap)) (r1 : w.cell? ⟨R, 1, none⟩ = some (.int .i64 pos)) (rf : w.frozen? ⟨R, 1, none⟩ = false)
    (hc : ∀ j, j < 4 → w.cell? ⟨b, off + pos + j, none⟩ = some (.int .u8 (c j)) ∧ 0 ≤ hexd (c j)) :
    Calls Try.prog 14 #[.pointer (some ⟨R, 0, none⟩)] w fun e w' => e = .returned (.tuple #[.int .i32 (hv c 4), .bool true]) ∧ ∃ q, w' = (w.setCell ⟨R, 1, none⟩ (.int .i64 (pos + 4))).drewN q := by
  have hl2 : (n : Int) ≤ 4194304 := by omega
  have hl3 : (pos : Int) + 4 ≤ n := by omega
  have HC := hide hc
  clear hc
  go_enter Try.func14, Try.ntmps14
  go_wp2
  go_quiet (fail)
  go_wp2
  go_quiet (fail)
  go_wp2
  go_loop [4, 34] (fun v i => ∃ k : Nat, k ≤ 4 ∧ i = .int .i64 k ∧ v = .int .i32 (hv c k)) (fun _ i => 4 - (intOf i).toNat)
  case atStart => exact ⟨0, Nat.zero_le _, rfl, rfl⟩
  case round =>
    obtain ⟨k, hk, rfl, rfl⟩ := hrel
    by_cases hlt : k < 4
    · obtain ⟨hck, hgk⟩ := unhide HC k hlt
      obtain ⟨x0, x1⟩ := hv_bd' c 4 (fun j hj => (unhide HC j hj).2) k hk hlt
      have HS : Hid (hv c (k + 1) = hv c k * 16 + hexd (c k)) := hide rfl
      generalize c k = z at *
      generalize hv c k = x at *
      rcases hexd_ways hgk with ⟨g0, g1⟩ | ⟨g0, g1⟩ | ⟨g0, g1⟩
      · rw [hexd_09 g0 g1] at HS
        have HO := hide (or_i32 x (z - 48) x0 x1 (by omega) (by omega))
        clear hgk
        go_wp2
        go_round
        case rel => exact ⟨_, _, _, _, _, _, ⟨k + 1, by omega, by go_num, by rw [unhide HS, ← unhide HO]⟩, rfl, rfl, rfl, rfl, rfl, rfl⟩
        case measure => simp [intOf]; omega
      · rw [hexd_af g0 g1] at HS
        have HO := hide (or_i32 x (z - 97 + 10) x0 x1 (by omega) (by omega))
        clear hgk
        go_wp2
        go_round
        case rel => exact ⟨_, _, _, _, _, _, ⟨k + 1, by omega, by go_num, by rw [unhide HS, ← unhide HO]⟩, rfl, rfl, rfl, rfl, rfl, rfl⟩
        case measure => simp [intOf]; omega
      · rw [hexd_AF g0 g1] at HS
        have HO := hide (or_i32 x (z - 65 + 10) x0 x1 (by omega) (by omega))
        clear hgk
        go_wp2
        go_round
        case rel => exact ⟨_, _, _, _, _, _, ⟨k + 1, by omega, by go_num, by rw [unhide HS, ← unhide HO]⟩, rfl, rfl, rfl, rfl, rfl, rfl⟩
        case measure => simp [intOf]; omega
    · obtain rfl : k = 4 := by omega
      go_wp2
      go_ret2
      exact ⟨rfl, _, rfl⟩

theorem hexd_bad {z : Int} (h : hexd z < 0) : ¬ (48 ≤ z ∧ z ≤ 57) ∧ ¬ (97 ≤ z ∧ z ≤ 102) ∧ ¬ (65 ≤ z ∧ z ≤ 70) := by
  refine ⟨fun g => ?_, fun g => ?_, fun g => ?_⟩
  · have := hexd_09 g.1 g.2; omega
  · have := hexd_af g.1 g.2; omega
  · have := hexd_AF g.1 g.2; omega

set_option maxHeartbeats 2000000 in
theorem hex4_bad (R b off n cap : Nat) (pos t : Nat) (c : Nat → Int) (w : World) (hn : n ≤ 4194304) (hcap : n ≤ cap) (hlong : pos + 4 ≤ n) (ht : t < 4)
    (r0 : w.cell? ⟨R, 0, none⟩ = some (.slice (some ⟨b, off, none⟩) n cap)) (r1 : w.cell? ⟨R, 1, none⟩ = some (.int .i64 pos))
    (hc : ∀ j, j < 4 → w.cell? ⟨b, off + pos + j, none⟩ = some (.int .u8 (c j))) (hg : ∀ j, j < t → 0 ≤ hexd (c j)) (hbad : hexd (c t) < 0) :
    Calls Try.prog 14 #[.pointer (some ⟨R, 0, none⟩)] w fun e w' => e = .returned (.tuple #[.int .i32 0, .bool false]) ∧ ∃ q, w' = w.drewN q := by
  have hl2 : (n : Int) ≤ 4194304 := by omega
  have hl3 : (pos : Int) + 4 ≤ n := by omega
  have HC := hide hc
  have HG := hide hg
  have HB := hide hbad
  clear hc hg hbad
  go_enter Try.func14, Try.ntmps14
  go_wp2
  go_quiet (fail)
  go_wp2
  go_quiet (fail)
  go_wp2
  go_loop [4, 34] (fun v i => ∃ k : Nat, k ≤ t ∧ i = .int .i64 k ∧ v = .int .i32 (hv c k)) (fun _ i => 4 - (intOf i).toNat)
  case atStart => exact ⟨0, Nat.zero_le _, rfl, rfl⟩
  case round =>
    obtain ⟨k, hk, rfl, rfl⟩ := hrel
    have hlt : k < 4 := by omega
    have hck := unhide HC k hlt
    obtain ⟨x0, x1⟩ := hv_bd' c t (unhide HG) k hk hlt
    by_cases hkt : k < t
    · have hgk := unhide HG k hkt
      have HS : Hid (hv c (k + 1) = hv c k * 16 + hexd (c k)) := hide rfl
      generalize c k = z at *
      generalize hv c k = x at *
      rcases hexd_ways hgk with ⟨g0, g1⟩ | ⟨g0, g1⟩ | ⟨g0, g1⟩
      · rw [hexd_09 g0 g1] at HS
        have HO := hide (or_i32 x (z - 48) x0 x1 (by omega) (by omega))
        clear hgk
        go_wp2
        go_round
        case rel => exact ⟨_, _, _, _, _, _, ⟨k + 1, by omega, by go_num, by rw [unhide HS, ← unhide HO]⟩, rfl, rfl, rfl, rfl, rfl, rfl⟩
        case measure => simp [intOf]; omega
      · rw [hexd_af g0 g1] at HS
        have HO := hide (or_i32 x (z - 97 + 10) x0 x1 (by omega) (by omega))
        clear hgk
        go_wp2
        go_round
        case rel => exact ⟨_, _, _, _, _, _, ⟨k + 1, by omega, by go_num, by rw [unhide HS, ← unhide HO]⟩, rfl, rfl, rfl, rfl, rfl, rfl⟩
        case measure => simp [intOf]; omega
      · rw [hexd_AF g0 g1] at HS
        have HO := hide (or_i32 x (z - 65 + 10) x0 x1 (by omega) (by omega))
        clear hgk
        go_wp2
        go_round
        case rel => exact ⟨_, _, _, _, _, _, ⟨k + 1, by omega, by go_num, by rw [unhide HS, ← unhide HO]⟩, rfl, rfl, rfl, rfl, rfl, rfl⟩
        case measure => simp [intOf]; omega
    · obtain rfl : k = t := by omega
      have hbad := unhide HB
      clear HB
      generalize c k = z at *
      generalize hv c k = x at *
      obtain ⟨n1, n2, n3⟩ := hexd_bad hbad
      clear hbad
      by_cases a0 : 48 ≤ z
      · have a1 : ¬ z ≤ 57 := fun h => n1 ⟨a0, h⟩
        by_cases b0 : 97 ≤ z
        · have b1 : ¬ z ≤ 102 := fun h => n2 ⟨b0, h⟩
          have c0 : 65 ≤ z := by omega
          have c1 : ¬ z ≤ 70 := by omega
          clear n1 n2 n3
          go_wp2
          go_ret2
          exact ⟨rfl, _, rfl⟩
        · by_cases c0 : 65 ≤ z
          · have c1 : ¬ z ≤ 70 := fun h => n3 ⟨c0, h⟩
            clear n1 n2 n3
            go_wp2
            go_ret2
            exact ⟨rfl, _, rfl⟩
          · clear n1 n2 n3
            go_wp2
            go_ret2
            exact ⟨rfl, _, rfl⟩
      · have b0 : ¬ 97 ≤ z := by omega
        have c0 : ¬ 65 ≤ z := by omega
        clear n1 n2 n3
        go_wp2
        go_ret2
        exact ⟨rfl, _, rfl⟩
end Go.Proofs.Qxb6602005a
