import Derived.Test.Qxb6603516aLabels
import Derived.Test.Qxb6603516aSdAny
namespace Go.Proofs.Qxb6603516a
open Go.RowKit Go.Maps

/-- The rules after k labels of xs. -/
def Filled (w wr : World) (B R M n : Nat) (v : Value) (L : List Str) : Prop :=
  ∃ D, MR wr B R M n D v ∧ (∀ y : Str, Maps.has D (.string y) = true ↔ y ∈ L) ∧ Kept R M w wr

theorem filled_start {w : World} {B R M : Nat} {v : Value} (h : MR w B R M 0 (.map []) v) : Filled w w B R M 0 v [] :=
  ⟨_, h, fun y => by simp [Maps.has], Kept.refl _ _ _⟩

theorem filled_step {w wr : World} {B R M n : Nat} {v : Value} {L : List Str} (h : Filled w wr B R M n v L) (x : Str) (hx : x.length ≤ maxLen) (hn : n < maxLen) :
    Calls Try.prog 9 #[.pointer (some ⟨R, 0, none⟩), .string ⟨x.toArray⟩] wr fun e w' => e = .returned (.tuple #[]) ∧ Hid (Filled w w' B R M (n + 1) v (L ++ [x])) := by
  obtain ⟨D, hm, hk, hkept⟩ := h
  refine (zzrule_any B R M n D v x wr hm hx hn).mono ?_
  rintro e w' ⟨rfl, D', hm', hkept', hk'⟩
  refine ⟨rfl, hide ⟨D', hm', fun y => ?_, hkept.trans hkept'⟩⟩
  rw [hk', hk, List.mem_append, List.mem_singleton]

theorem filled_sort {w wr : World} {B R M n : Nat} {v : Value} {L : List Str} (h : Filled w wr B R M n v L) (hn : n ≤ 8192) :
    Calls Try.prog 10 #[.pointer (some ⟨R, 0, none⟩)] wr fun e w' => e = .returned (.tuple #[]) ∧ ∃ (a : Option Addr) (cap : Nat) (l : List Str), Hid (Asc l ∧ (∀ y : Str, y ∈ l ↔ y ∈ L) ∧ l.length ≤ n ∧ SK w' R M a l.length l ∧ w'.cell? ⟨R, 1, none⟩ = some (.slice a l.length cap) ∧ Filled w w' B R M n (.slice a l.length cap) L ∧ Kept R M wr w') := by
  obtain ⟨D, hm, hk, hkept⟩ := h
  refine (zzsort_any B R M n D v wr hm hn).mono ?_
  rintro e w' ⟨rfl, a, cap, l, h1, h2, h3, h4, h5, h6⟩
  exact ⟨rfl, a, cap, l, hide ⟨h1, fun y => by rw [h2, hk], h3, h4, h5.2.1, ⟨D, h5, hk, hkept.trans h6⟩, h6⟩⟩

theorem take_snoc (xs : List Str) (k : Nat) (h : k < xs.length) : xs.take k ++ [xs.getD k []] = xs.take (k + 1) := by
  rw [List.take_succ_eq_append_getElem h, getD_at xs k h]

set_option maxRecDepth 100000 in
set_option maxHeartbeats 4000000 in
theorem law1 (a : Option Addr) (n cap : Nat) (xs : List Str) (w : World) (h : SS w w.heap.size a n xs) (hcap : a = none → cap = 0) :
    Calls Try.prog 3 #[.slice a n cap] w fun e w' => e = .returned (.bool true) ∧ Below w.heap.size w w' := by
  go_enter Try.func3, Try.ntmps3
  go_wp2_with fail
  refine (zz_any a n cap _ xs _ h).mono ?_
  rintro e w1 ⟨⟨q, rfl⟩, rfl⟩
  cases q
  · go_wp2
    go_ret
    exact ⟨rfl, Below.refl _ _⟩
  by_cases hn : (4096 : Int) < n
  · go_wp2
    go_ret
    exact ⟨rfl, Below.refl _ _⟩
  have hn' : (n : Int) ≤ 4096 := by omega
  go_wp2_with fail
  refine (size_any a n cap _ xs _ (by omega) h).mono ?_
  rintro e w1 ⟨⟨q, rfl⟩, rfl⟩
  by_cases hq : 1048576 < q
  · go_wp2
    go_ret
    exact ⟨rfl, Below.refl _ _⟩
  go_wp2_with fail
  refine (clone_any a n cap xs _ h hcap (by omega)).mono ?_
  rintro e w1 ⟨a1, c1, rfl, s1, B1⟩
  have z1 := B1.size
  go_wp2_with fail
  refine (newRules _).mono ?_
  rintro e w2 ⟨R, M, rfl, m2, B2⟩
  have z2 := B2.size
  have k2 : SK w2 R M a1 n xs := (s1.carry B2).sk m2.2.2.2.1 m2.2.2.2.2.2.1 z2
  have F2 := hide (filled_start m2)
  have HB2 : Hid (Below w.heap.size w w2) := hide (B1.trans (B2.mono z1))
  have hR1 : Hid (w1.heap.size ≤ R ∧ w1.heap.size ≤ M) := hide ⟨m2.2.2.2.1, m2.2.2.2.2.2.1⟩
  clear m2 B1 B2 s1 h hcap
  go_wp2_with fail
  go_loopw [4] (fun i wr => ∃ k : Nat, k ≤ n ∧ i = .int .i64 k ∧ Hid (Filled w2 wr w1.heap.size R M k (.slice none 0 0) (xs.take k))) (fun i _ => n - (intOf i).toNat)
  case atStart => exact ⟨0, Nat.zero_le _, rfl, by simpa using F2⟩
  case round =>
    obtain ⟨k, hk, rfl, hF⟩ := hrel
    by_cases hlt : k < n
    · obtain ⟨_, _, _, hkept⟩ := unhide hF
      have kr := k2.carry hkept
      obtain ⟨b, off, rfl, _, _, _, hc⟩ := kr.2.2.2 (by omega)
      have hxl := kr.1
      have hx : (xs.getD k []).length ≤ maxLen := kr.2.1 _ (by rw [getD_at xs k (by omega)]; exact List.getElem_mem _)
      have hcell := hc k hlt
      have HT := hide (take_snoc xs k (by omega))
      clear hc kr hkept hxl
      generalize xs.getD k [] = x at *
      go_wp2_with fail
      refine (filled_step (unhide hF) x hx (by unfold maxLen; omega)).mono ?_
      rintro e w3 ⟨rfl, F3⟩
      rw [unhide HT] at F3
      go_wp2
      go_roundw
      case rel => exact ⟨k + 1, by omega, by go_num, F3⟩
      case measure => simp [intOf]; omega
    · obtain rfl : k = n := by omega
      go_wp2_with fail
      refine (filled_sort (unhide hF) (by omega)).mono ?_
      rintro e w3 ⟨rfl, a3, c3, l, H3⟩
      go_wp2_with fail
      refine (zzlabels_any R _ a3 _ c3 _ rfl (unhide H3).2.2.2.2.1).mono ?_
      rintro e w3' ⟨rfl, hw⟩
      obtain rfl : w3 = w3' := hw.symm
      clear hw
      have k3 : SK w3 R M a1 k xs := k2.carry (by obtain ⟨_, _, _, hkept⟩ := (unhide H3).2.2.2.2.2.1; exact hkept)
      go_wp2_with fail
      refine (sd_any a1 k c1 _ xs _ (by omega) (Nat.le_refl _) k3.ss).mono ?_
      rintro e w4 ⟨o, a4, c4, rfl, H4⟩
      obtain ⟨p1, p2, p3, p4, p5⟩ := unhide H4
      obtain ⟨l1, l2, l3, l4, l5, l6, l7⟩ := unhide H3
      have hxl := k3.1
      have elo : o = l := asc_ext p1 l1 (fun y => by rw [p2, l2, ← hxl, List.take_length])
      subst elo
      have hs3 : SS w4 w3.heap.size a3 o.length o := l4.ss.carry p5
      have HB4 : Hid (Below w.heap.size w w4) := by
        obtain ⟨_, _, _, hkept⟩ := l6
        have hr := unhide hR1
        exact hide ((unhide HB2).trans ((hkept.below (by omega) (by omega) (by omega)).trans (p5.mono (by have := hkept.size; omega))))
      clear p1 p2 p5 l1 l2 l4 l5 l6 l7 H3 H4 hF
      go_wp2_with fail
      refine (equal_any a3 a4 c3 c4 o.length _ _ o _ (by omega) hs3 p4).mono ?_
      rintro e w5 ⟨rfl, q, rfl⟩
      go_wp2
      go_ret
      exact ⟨rfl, below_drewN (unhide HB4) _⟩
end Go.Proofs.Qxb6603516a
