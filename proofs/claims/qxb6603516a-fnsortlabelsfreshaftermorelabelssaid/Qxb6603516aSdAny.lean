import Derived.Test.Qxb6603516aSd
namespace Go.Proofs.Qxb6603516a
open Go.RowKit

theorem sd_zero (a : Option Addr) (cap : Nat) (w : World) :
    Calls Try.prog 13 #[.slice a 0 cap] w fun e w' => e = .returned (.slice (some ⟨w.heap.size, 0, none⟩) 0 0) ∧ Below w.heap.size w w' := by
  have hmk := make_own 0 (by omega)
  simp only [Int.natCast_zero] at hmk
  go_enter Try.func13, Try.ntmps13
  go_wp2
  refine wp_loop_rounds 1 ?_
  rw [rounds_succ]; go_wp2
  go_ret
  exact ⟨rfl, (Below.refl _ _).alloc (Nat.le_refl _) _⟩

theorem sd_any (a : Option Addr) (n cap B : Nat) (xs : List Str) (w : World) (hn : n ≤ 8192) (hB : B ≤ w.heap.size) (h : SS w B a n xs) :
    Calls Try.prog 13 #[.slice a n cap] w fun e w' => ∃ (o : List Str) (a' : Option Addr) (cap' : Nat), e = .returned (.slice a' o.length cap') ∧ Hid (Asc o ∧ (∀ y, y ∈ o ↔ y ∈ xs) ∧ o.length ≤ n ∧ SS w' w'.heap.size a' o.length o ∧ Below w.heap.size w w') := by
  by_cases h0 : n = 0
  · subst h0
    have hx : xs = [] := List.eq_nil_of_length_eq_zero h.1
    subst hx
    refine (sd_zero a cap w).mono ?_
    rintro e w' ⟨rfl, hb⟩
    exact ⟨[], _, 0, rfl, hide ⟨List.Pairwise.nil, fun y => Iff.rfl, Nat.le_refl _, ⟨rfl, fun x hx => by simp at hx, fun h => by simp at h, fun h => absurd h (Nat.lt_irrefl _)⟩, hb⟩⟩
  · obtain ⟨b, off, rfl, hb, hc⟩ := h.2.2.2 (by omega)
    refine (sd_some b off n cap xs w hn h.1 (by omega) hc).mono ?_
    rintro e w' ⟨o, rfl, hf⟩
    obtain ⟨h1, h2, h3, h4, h5⟩ := unhide hf
    refine ⟨o, _, n, rfl, hide ⟨h1, h2, h3, ?_, h5⟩⟩
    obtain ⟨a', cap', e', hss⟩ := SS_owns rfl (fun x hx => h.2.1 x ((h2 x).1 hx)) h4
    simp at e'
    obtain ⟨rfl, rfl⟩ := e'
    exact hss
end Go.Proofs.Qxb6603516a
