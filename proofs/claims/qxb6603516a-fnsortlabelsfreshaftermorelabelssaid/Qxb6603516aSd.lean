import Derived.Test.Qxb6603516aSdParts
namespace Go.Proofs.Qxb6603516a
open Go.RowKit

set_option maxHeartbeats 4000000 in
theorem sd_some (b off n cap : Nat) (xs : List Str) (w : World) (hn : n ≤ 8192) (hl : xs.length = n) (hb : b < w.heap.size)
    (hc : ∀ j, j < n → w.cell? ⟨b, off + j, none⟩ = some (.string ⟨(xs.getD j []).toArray⟩)) :
    Calls Try.prog 13 #[.slice (some ⟨b, off, none⟩) n cap] w fun e w' => ∃ o : List Str, e = .returned (.slice (some ⟨w.heap.size, 0, none⟩) o.length n) ∧ Hid (Asc o ∧ (∀ y, y ∈ o ↔ y ∈ xs) ∧ o.length ≤ n ∧ Row w' w.heap.size n o ∧ Below w.heap.size w w') := by
  have hmk := make_own n hn
  have hl2 : (n : Int) ≤ 8192 := by omega
  have HC := hide hc
  have HL := hide hl
  clear hc hl
  obtain ⟨i0, hi, hz0, hz1, hz2⟩ := info_parts info9
  go_enter Try.func13, Try.ntmps13
  go_wp2
  go_loopw [3, 4] (fun u i wr => ∃ (k : Nat) (o : List Str), k ≤ n ∧ i = .int .i64 k ∧ u = .slice (some ⟨w.heap.size, 0, none⟩) o.length n ∧ o.length ≤ k ∧ Hid (Asc o ∧ ∀ y, y ∈ o ↔ y ∈ xs.take k) ∧ Hid (Row wr w.heap.size n o) ∧ Below w.heap.size w wr) (fun _ i _ => n - (intOf i).toNat)
  case atStart => exact ⟨0, [], Nat.zero_le _, rfl, rfl, Nat.le_refl _, hide ⟨List.Pairwise.nil, fun y => by simp⟩, hide (World.ownsRow_made w _ n (Nat.le_refl _) (by unfold maxLen; omega) (by simp [madeCells])), (Below.refl _ _).alloc (Nat.le_refl _) _⟩
  case round =>
    obtain ⟨k, o, hk, rfl, rfl, hok, hset, hrow, hbel⟩ := hrel
    by_cases hlt : k < n
    · obtain ⟨x, hx⟩ : ∃ x, x = xs.getD k [] := ⟨_, rfl⟩
      have hcell : wr.cell? ⟨b, off + k, none⟩ = some (.string ⟨x.toArray⟩) := by rw [hx]; exact (hbel.cell (by exact hb)).trans (unhide HC k hlt)
      have HX := hide hx
      clear hx
      go_wp2
      go_loop [6, 7] (fun lo hi => ∃ p q : Nat, lo = .int .i64 p ∧ hi = .int .i64 q ∧ p ≤ q ∧ q ≤ o.length ∧ Hid (Place o x p q)) (fun lo hi => (intOf hi).toNat - (intOf lo).toNat)
      case atStart => exact ⟨0, o.length, rfl, rfl, Nat.zero_le _, Nat.le_refl _, place_start o x⟩
      case round =>
        obtain ⟨p, q, rfl, rfl, hpq, hq, hpl⟩ := hrel
        by_cases hlt2 : p < q
        · obtain ⟨m, hm⟩ : ∃ m : Nat, (p : Int) + ((q : Int) - p) / 2 = m := ⟨p + (q - p) / 2, by omega⟩
          have hm1 : p ≤ m := by omega
          have hm2 : m < q := by omega
          have hm3 : (m : Int) < o.length := by omega
          have hpq' : (p : Int) < q := by omega
          obtain ⟨z, hz⟩ : ∃ z, z = o.getD m [] := ⟨_, rfl⟩
          have hcm : wr.cell? ⟨w.heap.size, m, none⟩ = some (.string ⟨z.toArray⟩) := by rw [hz]; exact row_cell (unhide hrow) m (by omega)
          have HZ := hide hz
          clear hz
          by_cases hzx : z < x
          · have hbl : Op.bytesLess z x = true := by rw [bytesLess_eq]; simpa using hzx
            go_wp2
            go_round
            case rel => exact ⟨m + 1, q, by go_num, rfl, by omega, hq, place_up (unhide hset).1 (unhide hpl) (by omega) (by rw [← unhide HZ]; exact hzx)⟩
            case measure => simp [intOf]; omega
          · have hbl : Op.bytesLess z x = false := by rw [bytesLess_eq]; simpa using hzx
            go_wp2
            go_round
            case rel => exact ⟨p, m, rfl, rfl, hm1, by omega, place_down (unhide hset).1 (unhide hpl) (by rw [← unhide HZ]; exact hzx)⟩
            case measure => simp [intOf]; omega
        · obtain rfl : p = q := by omega
          by_cases hpo : p < o.length
          · have hpo' : (p : Int) < o.length := by omega
            obtain ⟨z, hz⟩ : ∃ z, z = o.getD p [] := ⟨_, rfl⟩
            have hcm : wr.cell? ⟨w.heap.size, p, none⟩ = some (.string ⟨z.toArray⟩) := by rw [hz]; exact row_cell (unhide hrow) p hpo
            have HZ := hide hz
            clear hz
            by_cases hzx : z = x
            · have hbe : (z == x) = true := by simpa using hzx
              have fin : Hid (Asc o ∧ ∀ y, y ∈ o ↔ y ∈ xs.take (k + 1)) := by
                refine ⟨(unhide hset).1, fun y => ?_⟩
                rw [mem_take_succ xs k (by have := unhide HL; omega), ← unhide HX, (unhide hset).2]
                refine ⟨.inl, ?_⟩
                rintro (h | h)
                · exact h
                · rw [h]; exact ((unhide hset).2 x).1 (there hpo (by rw [← unhide HZ]; exact hzx))
              clear hzx
              go_wp2
              go_roundw
              case rel => exact ⟨k + 1, o, by omega, by go_num, rfl, by omega, fin, hrow, hbel⟩
              case measure => simp [intOf]; omega
            · have hbe : (z == x) = false := by simpa using hzx
              have hrow' := unhide hrow
              have hsz0 := hbel.size
              go_wp2_with (first
                | (at_builtin; refine wpList_append_fits _ rfl _ _ 22 rfl w.heap.size 9 i0 1 Try.underlying22 hi hz1 w.heap.size o.length n (o.map encStr) rfl (hrow'.alloc _) ⟨wr.heap.size, 0, none⟩ 1 1 [.string ⟨#[]⟩] rfl rfl ?c1 ?c2 ?c3 ?_))
              case c2 => rfl
              case c3 => omega
              intro w1 O1 G1
              have B1 : Below w.heap.size w w1 := hbel.trans (((Below.refl _ _).alloc hsz0 _).grown G1 (by simp; omega) (fun q hq => by cases hq; exact Nat.le_refl _))
              obtain ⟨L, hL, hLn, hLt⟩ := row_open O1
              have HLt := hide hLt
              have HLn := hide hLn
              clear O1 G1 hrow' hLt hLn
              have q0 : (p : Int) + 1 ≤ (o.length : Int) + 1 := by omega
              have q1 : IntKind.i64.wrap ((p : Int) + 1) = (p : Int) + 1 := by rw [IntKind.wrap_i64]; omega
              have q2 : IntKind.i64.wrap (o.length : Int) = (o.length : Int) := by rw [IntKind.wrap_i64]; omega
              have q3 : ((p : Int) + 1).toNat = p + 1 := by omega
              have q4 : ¬ n = p + 1 := by omega
              have q5 : (0 : Int) ≤ (p : Int) + 1 := by omega
              have q6 : (p : Int) ≤ (o.length : Int) := by omega
              have q7 : (o.length : Int) ≤ (n : Int) := by omega
              have q8 : ¬ n = p := by omega
              have q9 : p ≤ o.length := by omega
              go_wp2_with fail
              obtain ⟨CS, hCS⟩ : ∃ CS, CS = (o.drop p).map encStr := ⟨_, rfl⟩
              have r1 := hide (show CS.length = Nat.min (o.length - p) (o.length - p) by rw [hCS]; simp)
              have r2 : Hid (∀ j v, CS[j]? = some v → w1.drew.cell? ((⟨w.heap.size, p, none⟩ : Addr).add j) = some v) := hide (by rw [hCS]; exact src_cells (n := n) hL (unhide HLt) (unhide HLn))
              have r3 := hide (show p + 1 + CS.length ≤ L.length by rw [hCS, unhide HLn]; simp; omega)
              have r4 : Hid (∀ v ∈ CS, v.oneCell' = true) := hide (by rw [hCS]; intro v hv; obtain ⟨y, _, rfl⟩ := List.mem_map.1 hv; rfl)
              have HCS := hide hCS
              clear hCS
              go_region_law (refine step_copy_splice rfl (.tmp 60) (.tmp 66) 22 22 rfl 9 Try.underlying22 size9 (some ⟨w.heap.size, p + 1, none⟩) (some ⟨w.heap.size, p, none⟩) (o.length - p) (n - (p + 1)) (o.length - p) (n - p) (by go_simp) (by go_simp) w.heap.size (p + 1) L 9 hL CS (unhide r1) (fun _ => ⟨rfl, _, rfl, unhide r2⟩) (unhide r3) (unhide r4) w.heap.size w B1.drew (Nat.le_refl _) ?_; intro w4 hg4 hb4)
              have t0 : ∃ v, w4.cell? ⟨w.heap.size, p, none⟩ = some v := row_has (unhide hg4) (by rw [length_splice _ _ _ (unhide r3), unhide HLn]; omega)
              obtain ⟨v4, hv4⟩ := t0
              have hf4 := row_free (unhide hg4) p
              have fin : Hid (Asc (o.take p ++ x :: o.drop p) ∧ ∀ y, y ∈ o.take p ++ x :: o.drop p ↔ y ∈ xs.take (k + 1)) := by
                refine ⟨laid (unhide hset).1 (unhide hpl) (by omega) (fun _ => by rw [← unhide HZ]; exact hzx), fun y => ?_⟩
                rw [mem_take_succ xs k (by have := unhide HL; omega), ← unhide HX, mem_laid, (unhide hset).2]
              have hol : (o.take p ++ x :: o.drop p).length = o.length + 1 := by simp; omega
              have HOL := hide hol
              have HR : Hid (Row (w4.setCell ⟨w.heap.size, p, none⟩ (.string ⟨x.toArray⟩)) w.heap.size n (o.take p ++ x :: o.drop p)) := hide (row_laid (unhide HLn) (unhide HLt) (by omega) (by omega) (by unfold maxLen; omega) (unhide HCS) (unhide hg4))
              generalize o.take p ++ x :: o.drop p = o' at *
              clear hol
              go_wp2
              go_roundw
              case rel => exact ⟨k + 1, o', by omega, by go_num, by rw [unhide HOL], by rw [unhide HOL]; omega, fin, HR, hb4.setCell (Nat.le_refl _) _⟩
              case measure => simp [intOf]; omega
          · have hpo' : ((p : Int) < o.length) = False := by simp; omega
            by_cases hn1 : n = p + 1
            · have HN1 := hide hn1
              clear hn1
              have hpd : decide ((p : Int) < o.length) = false := by simp; omega
              have hrow' := unhide hrow
              have hsz0 := hbel.size
              go_wp2_with (first
                | (at_builtin; refine wpList_append_fits _ rfl _ _ 22 rfl w.heap.size 9 i0 1 Try.underlying22 hi hz1 w.heap.size o.length n (o.map encStr) rfl (hrow'.alloc _) ⟨wr.heap.size, 0, none⟩ 1 1 [.string ⟨#[]⟩] rfl rfl ?c1 ?c2 ?c3 ?_))
              case c2 => rfl
              case c3 => omega
              intro w1 O1 G1
              have B1 : Below w.heap.size w w1 := hbel.trans (((Below.refl _ _).alloc hsz0 _).grown G1 (by simp; omega) (fun q hq => by cases hq; exact Nat.le_refl _))
              obtain ⟨L, hL, hLn, hLt⟩ := row_open O1
              have HLt := hide hLt
              have HLn := hide hLn
              clear O1 G1 hrow' hLt hLn
              have q4 : p + 1 = n := (unhide HN1).symm
              have q0 : (p : Int) + 1 ≤ (o.length : Int) + 1 := by omega
              have q1 : IntKind.i64.wrap ((p : Int) + 1) = (p : Int) + 1 := by rw [IntKind.wrap_i64]; omega
              have q2 : IntKind.i64.wrap (o.length : Int) = (o.length : Int) := by rw [IntKind.wrap_i64]; omega
              have q3 : ((p : Int) + 1).toNat = p + 1 := by omega
              have q5 : (0 : Int) ≤ (p : Int) + 1 := by omega
              have q6 : (p : Int) ≤ (o.length : Int) := by omega
              have q7 : (o.length : Int) ≤ (n : Int) := by omega
              have q8 : ¬ n = p := by omega
              have q9 : p ≤ o.length := by omega
              go_wp2_with fail
              obtain ⟨CS, hCS⟩ : ∃ CS, CS = (o.drop p).map encStr := ⟨_, rfl⟩
              have r1 := hide (show CS.length = Nat.min (o.length - p) (o.length + 1 - n) by rw [hCS, List.length_map, List.length_drop]; have := Nat.min_le_right (o.length - p) (o.length + 1 - n); have := unhide HN1; show _ = min _ _; omega)
              have r2 : Hid (∀ j v, CS[j]? = some v → w1.drew.cell? ((⟨w.heap.size, p, none⟩ : Addr).add j) = some v) := hide (by rw [hCS]; exact src_cells (n := n) hL (unhide HLt) (unhide HLn))
              have r3 := hide (show p + 1 + CS.length ≤ L.length by rw [hCS, unhide HLn]; simp; omega)
              have r4 : Hid (∀ v ∈ CS, v.oneCell' = true) := hide (by rw [hCS]; intro v hv; obtain ⟨y, _, rfl⟩ := List.mem_map.1 hv; rfl)
              have r5 : Hid (¬ 0 < CS.length) := hide (by rw [hCS]; simp; omega)
              have HCS := hide hCS
              clear hCS
              go_region_law (refine step_copy_splice rfl (.tmp 60) (.tmp 66) 22 22 rfl 9 Try.underlying22 size9 (some ⟨w.heap.size, 0, none⟩) (some ⟨w.heap.size, p, none⟩) (o.length + 1 - n) 0 (o.length - p) (n - p) (by go_simp) (by go_simp) w.heap.size (p + 1) L 9 hL CS (unhide r1) (fun h => absurd h (unhide r5)) (unhide r3) (unhide r4) w.heap.size w B1.drew (Nat.le_refl _) ?_; intro w4 hg4 hb4)
              clear q4
              have t0 : ∃ v, w4.cell? ⟨w.heap.size, p, none⟩ = some v := row_has (unhide hg4) (by rw [length_splice _ _ _ (unhide r3), unhide HLn]; omega)
              obtain ⟨v4, hv4⟩ := t0
              have hf4 := row_free (unhide hg4) p
              have fin : Hid (Asc (o.take p ++ x :: o.drop p) ∧ ∀ y, y ∈ o.take p ++ x :: o.drop p ↔ y ∈ xs.take (k + 1)) := by
                refine ⟨laid (unhide hset).1 (unhide hpl) (by omega) (fun h => absurd h hpo), fun y => ?_⟩
                rw [mem_take_succ xs k (by have := unhide HL; omega), ← unhide HX, mem_laid, (unhide hset).2]
              have hol : (o.take p ++ x :: o.drop p).length = o.length + 1 := by simp; omega
              have HOL := hide hol
              have HR : Hid (Row (w4.setCell ⟨w.heap.size, p, none⟩ (.string ⟨x.toArray⟩)) w.heap.size n (o.take p ++ x :: o.drop p)) := hide (row_laid (unhide HLn) (unhide HLt) (by omega) (by omega) (by unfold maxLen; omega) (unhide HCS) (unhide hg4))
              generalize o.take p ++ x :: o.drop p = o' at *
              clear hol
              go_wp2
              go_roundw
              case rel => exact ⟨k + 1, o', by omega, by go_num, by rw [unhide HOL], by rw [unhide HOL]; omega, fin, HR, hb4.setCell (Nat.le_refl _) _⟩
              case measure => simp [intOf]; omega
            · have hpd : decide ((p : Int) < o.length) = false := by simp; omega
              have hrow' := unhide hrow
              have hsz0 := hbel.size
              go_wp2_with (first
                | (at_builtin; refine wpList_append_fits _ rfl _ _ 22 rfl w.heap.size 9 i0 1 Try.underlying22 hi hz1 w.heap.size o.length n (o.map encStr) rfl (hrow'.alloc _) ⟨wr.heap.size, 0, none⟩ 1 1 [.string ⟨#[]⟩] rfl rfl ?c1 ?c2 ?c3 ?_))
              case c2 => rfl
              case c3 => omega
              intro w1 O1 G1
              have B1 : Below w.heap.size w w1 := hbel.trans (((Below.refl _ _).alloc hsz0 _).grown G1 (by simp; omega) (fun q hq => by cases hq; exact Nat.le_refl _))
              obtain ⟨L, hL, hLn, hLt⟩ := row_open O1
              have HLt := hide hLt
              have HLn := hide hLn
              clear O1 G1 hrow' hLt hLn
              have q0 : (p : Int) + 1 ≤ (o.length : Int) + 1 := by omega
              have q1 : IntKind.i64.wrap ((p : Int) + 1) = (p : Int) + 1 := by rw [IntKind.wrap_i64]; omega
              have q2 : IntKind.i64.wrap (o.length : Int) = (o.length : Int) := by rw [IntKind.wrap_i64]; omega
              have q3 : ((p : Int) + 1).toNat = p + 1 := by omega
              have q5 : (0 : Int) ≤ (p : Int) + 1 := by omega
              have q6 : (p : Int) ≤ (o.length : Int) := by omega
              have q7 : (o.length : Int) ≤ (n : Int) := by omega
              have q8 : ¬ n = p := by omega
              have q9 : p ≤ o.length := by omega
              go_wp2_with fail
              obtain ⟨CS, hCS⟩ : ∃ CS, CS = (o.drop p).map encStr := ⟨_, rfl⟩
              have r1 := hide (show CS.length = Nat.min (o.length - p) (o.length - p) by rw [hCS]; simp)
              have r2 : Hid (∀ j v, CS[j]? = some v → w1.drew.cell? ((⟨w.heap.size, p, none⟩ : Addr).add j) = some v) := hide (by rw [hCS]; exact src_cells (n := n) hL (unhide HLt) (unhide HLn))
              have r3 := hide (show p + 1 + CS.length ≤ L.length by rw [hCS, unhide HLn]; simp; omega)
              have r4 : Hid (∀ v ∈ CS, v.oneCell' = true) := hide (by rw [hCS]; intro v hv; obtain ⟨y, _, rfl⟩ := List.mem_map.1 hv; rfl)
              have HCS := hide hCS
              clear hCS
              go_region_law (refine step_copy_splice rfl (.tmp 60) (.tmp 66) 22 22 rfl 9 Try.underlying22 size9 (some ⟨w.heap.size, p + 1, none⟩) (some ⟨w.heap.size, p, none⟩) (o.length - p) (n - (p + 1)) (o.length - p) (n - p) (by go_simp) (by go_simp) w.heap.size (p + 1) L 9 hL CS (unhide r1) (fun _ => ⟨rfl, _, rfl, unhide r2⟩) (unhide r3) (unhide r4) w.heap.size w B1.drew (Nat.le_refl _) ?_; intro w4 hg4 hb4)
              have t0 : ∃ v, w4.cell? ⟨w.heap.size, p, none⟩ = some v := row_has (unhide hg4) (by rw [length_splice _ _ _ (unhide r3), unhide HLn]; omega)
              obtain ⟨v4, hv4⟩ := t0
              have hf4 := row_free (unhide hg4) p
              have fin : Hid (Asc (o.take p ++ x :: o.drop p) ∧ ∀ y, y ∈ o.take p ++ x :: o.drop p ↔ y ∈ xs.take (k + 1)) := by
                refine ⟨laid (unhide hset).1 (unhide hpl) (by omega) (fun h => absurd h hpo), fun y => ?_⟩
                rw [mem_take_succ xs k (by have := unhide HL; omega), ← unhide HX, mem_laid, (unhide hset).2]
              have hol : (o.take p ++ x :: o.drop p).length = o.length + 1 := by simp; omega
              have HOL := hide hol
              have HR : Hid (Row (w4.setCell ⟨w.heap.size, p, none⟩ (.string ⟨x.toArray⟩)) w.heap.size n (o.take p ++ x :: o.drop p)) := hide (row_laid (unhide HLn) (unhide HLt) (by omega) (by omega) (by unfold maxLen; omega) (unhide HCS) (unhide hg4))
              generalize o.take p ++ x :: o.drop p = o' at *
              clear hol
              go_wp2
              go_roundw
              case rel => exact ⟨k + 1, o', by omega, by go_num, by rw [unhide HOL], by rw [unhide HOL]; omega, fin, HR, hb4.setCell (Nat.le_refl _) _⟩
              case measure => simp [intOf]; omega
    · have hkn : k = n := by omega
      have fin : Hid (Asc o ∧ (∀ y, y ∈ o ↔ y ∈ xs) ∧ o.length ≤ n ∧ Row wr w.heap.size n o ∧ Below w.heap.size w wr) := by
        refine ⟨(unhide hset).1, fun y => ?_, by omega, unhide hrow, hbel⟩
        rw [(unhide hset).2, hkn, ← unhide HL, List.take_length]
      clear hkn
      go_wp2
      go_ret
      exact ⟨o, rfl, fin⟩
end Go.Proofs.Qxb6603516a
