import Derived.Test.Qxb6602005aHex
namespace Go.Proofs.Qxb6602005a
open Go.RowKit

theorem below_drewN {B : Nat} {a w : World} (h : Below B a w) (n : Nat) : Below B a (w.drewN n) := ⟨h.os, h.tape, h.output, h.size, h.block⟩

set_option maxHeartbeats 1000000 in
theorem zzhex4_short (a : Option Addr) (n cap : Nat) (pos : Int) (ao : Option Addr) (no co : Nat) (w : World) (hn : n ≤ 4194304) (hp0 : 0 ≤ pos) (hp1 : pos ≤ 9223372036854775807) (hshort : (n : Int) - pos < 4) :
    Calls Try.prog 8 #[.slice a n cap, .int .i64 pos, .slice ao no co] w fun e w' => e = .returned (.tuple #[.int .i32 0, .int .i64 pos, .slice ao no co, .bool false]) ∧ Below w.heap.size w w' := by
  go_enter Try.func8, Try.ntmps8
  go_wp2_with fail
  refine (hex4_short _ a n cap pos _ hn hp0 hp1 hshort (by simp) (by simp)).mono ?_
  rintro e w1 ⟨rfl, q, rfl⟩
  go_wp2
  go_quiet (fail)
  go_wp2
  simp [bodyPost, results, Try.results8, go_sem]
  exact below_drewN ((Below.refl _ _).alloc (Nat.le_refl _) _) _

set_option maxHeartbeats 1000000 in
theorem zzhex4_good (B : Nat) (a : Option Addr) (n cap : Nat) (pos : Nat) (ao : Option Addr) (no co : Nat) (zs : List Int) (w : World) (hn : n ≤ 4194304) (hcap : n ≤ cap) (hlong : pos + 4 ≤ n) (hs : SB w B a n zs) (hB : B ≤ w.heap.size)
    (hg : ∀ j, j < 4 → 0 ≤ hexd (zs.getD (pos + j) 0)) :
    Calls Try.prog 8 #[.slice a n cap, .int .i64 pos, .slice ao no co] w fun e w' => e = .returned (.tuple #[.int .i32 (hv (fun j => zs.getD (pos + j) 0) 4), .int .i64 (pos + 4), .slice ao no co, .bool true]) ∧ Below w.heap.size w w' := by
  obtain ⟨b, off, rfl, hb, hc⟩ := hs.2.2.2 (by omega)
  have HC := hide hc
  have HG := hide hg
  clear hc hg hs
  obtain ⟨V, hV⟩ : ∃ V, V = hv (fun j => zs.getD (pos + j) 0) 4 := ⟨_, rfl⟩
  rw [← hV]
  have HV := hide hV
  clear hV
  go_enter Try.func8, Try.ntmps8
  go_wp2_with fail
  refine (hex4_good _ b off n cap pos (fun j => zs.getD (pos + j) 0) _ hn hcap hlong (by simp) (by simp) (by simp) ?_).mono ?_
  · intro j hj
    refine ⟨?_, unhide HG j hj⟩
    rw [World.cell?_alloc_past _ _ _ (by omega), Nat.add_assoc]
    exact unhide HC (pos + j) (by omega)
  rintro e w1 ⟨rfl, q, rfl⟩
  rw [← unhide HV]
  go_wp2
  go_quiet (fail)
  go_wp2
  simp [bodyPost, results, Try.results8, go_sem]
  exact below_drewN ((Below.refl _ _).alloc (Nat.le_refl _) _) _

set_option maxHeartbeats 1000000 in
theorem zzhex4_bad (B : Nat) (a : Option Addr) (n cap : Nat) (pos t : Nat) (ao : Option Addr) (no co : Nat) (zs : List Int) (w : World) (hn : n ≤ 4194304) (hcap : n ≤ cap) (hlong : pos + 4 ≤ n) (ht : t < 4) (hs : SB w B a n zs) (hB : B ≤ w.heap.size)
    (hg : ∀ j, j < t → 0 ≤ hexd (zs.getD (pos + j) 0)) (hbad : hexd (zs.getD (pos + t) 0) < 0) :
    Calls Try.prog 8 #[.slice a n cap, .int .i64 pos, .slice ao no co] w fun e w' => e = .returned (.tuple #[.int .i32 0, .int .i64 pos, .slice ao no co, .bool false]) ∧ Below w.heap.size w w' := by
  obtain ⟨b, off, rfl, hb, hc⟩ := hs.2.2.2 (by omega)
  have HC := hide hc
  have HG := hide hg
  have HBad := hide hbad
  clear hc hg hs hbad
  go_enter Try.func8, Try.ntmps8
  go_wp2_with fail
  refine (hex4_bad _ b off n cap pos t (fun j => zs.getD (pos + j) 0) _ hn hcap hlong ht (by simp) (by simp) ?_ (unhide HG) (unhide HBad)).mono ?_
  · intro j hj
    rw [World.cell?_alloc_past _ _ _ (by omega), Nat.add_assoc]
    exact unhide HC (pos + j) (by omega)
  rintro e w1 ⟨rfl, q, rfl⟩
  go_wp2
  go_quiet (fail)
  go_wp2
  simp [bodyPost, results, Try.results8, go_sem]
  exact below_drewN ((Below.refl _ _).alloc (Nat.le_refl _) _) _
end Go.Proofs.Qxb6602005a
