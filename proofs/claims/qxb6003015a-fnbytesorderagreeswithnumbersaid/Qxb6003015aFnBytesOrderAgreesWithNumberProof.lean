import Derived.Test.Qxb6003015aRows
import Derived.Test.Qxb6003015aFrom
import Derived.WalkKit
import Derived.ProofKit
import Derived.OpenShut
import Derived.ShutString
namespace Go.Proofs.Qxb6003015a.fnBytesOrderAgreesWithNumber
open Go.ChangeShapes Go.WideShapes Go.ChangeAt Go.RowKit
open Go.ChangeMaps (open_string shut_string)
set_option linter.unusedVariables false      -- a walk need not use every 'w<i>' (that an integer argument fits its kind)

theorem own : ownKnob Try.prog.godebug = none := by kernel_rfl

/-! ### THE PLAIN LAW -/
theorem lex_lt (x0 x1 x2 x3 x4 x5 y0 y1 y2 y3 y4 y5 : Int) (_ : 0 ≤ x0) (_ : x0 ≤ 255) (_ : 0 ≤ x1) (_ : x1 ≤ 255) (_ : 0 ≤ x2) (_ : x2 ≤ 255) (_ : 0 ≤ x3) (_ : x3 ≤ 255) (_ : 0 ≤ x4) (_ : x4 ≤ 255) (_ : 0 ≤ x5) (_ : x5 ≤ 255) (_ : 0 ≤ y0) (_ : y0 ≤ 255) (_ : 0 ≤ y1) (_ : y1 ≤ 255) (_ : 0 ≤ y2) (_ : y2 ≤ 255) (_ : 0 ≤ y3) (_ : y3 ≤ 255) (_ : 0 ≤ y4) (_ : y4 ≤ 255) (_ : 0 ≤ y5) (_ : y5 ≤ 255)
    (h : (x0 < y0) ∨ (x0 = y0 ∧ x1 < y1) ∨ (x0 = y0 ∧ x1 = y1 ∧ x2 < y2) ∨ (x0 = y0 ∧ x1 = y1 ∧ x2 = y2 ∧ x3 < y3) ∨ (x0 = y0 ∧ x1 = y1 ∧ x2 = y2 ∧ x3 = y3 ∧ x4 < y4) ∨ (x0 = y0 ∧ x1 = y1 ∧ x2 = y2 ∧ x3 = y3 ∧ x4 = y4 ∧ x5 < y5)) : (((((x0 * 256 + x1) * 256 + x2) * 256 + x3) * 256 + x4) * 256 + x5) < (((((y0 * 256 + y1) * 256 + y2) * 256 + y3) * 256 + y4) * 256 + y5) := by
  rcases h with h | h | h | h | h | h <;> omega

theorem lt0 (a b : Int)  (h : a / 1099511627776 % 256 < b / 1099511627776 % 256) : a % 281474976710656 < b % 281474976710656 := by
  have := lex_lt (a / 1099511627776 % 256) (a / 4294967296 % 256) (a / 16777216 % 256) (a / 65536 % 256) (a / 256 % 256) (a % 256) (b / 1099511627776 % 256) (b / 4294967296 % 256) (b / 16777216 % 256) (b / 65536 % 256) (b / 256 % 256) (b % 256) (by omega) (by omega) (by omega) (by omega) (by omega) (by omega) (by omega) (by omega) (by omega) (by omega) (by omega) (by omega) (by omega) (by omega) (by omega) (by omega) (by omega) (by omega) (by omega) (by omega) (by omega) (by omega) (by omega) (by omega) (Or.inl (h))
  rwa [pos_of, pos_of] at this

theorem lt1 (a b : Int) (e0 : a / 1099511627776 % 256 = b / 1099511627776 % 256) (h : a / 4294967296 % 256 < b / 4294967296 % 256) : a % 281474976710656 < b % 281474976710656 := by
  have := lex_lt (a / 1099511627776 % 256) (a / 4294967296 % 256) (a / 16777216 % 256) (a / 65536 % 256) (a / 256 % 256) (a % 256) (b / 1099511627776 % 256) (b / 4294967296 % 256) (b / 16777216 % 256) (b / 65536 % 256) (b / 256 % 256) (b % 256) (by omega) (by omega) (by omega) (by omega) (by omega) (by omega) (by omega) (by omega) (by omega) (by omega) (by omega) (by omega) (by omega) (by omega) (by omega) (by omega) (by omega) (by omega) (by omega) (by omega) (by omega) (by omega) (by omega) (by omega) (Or.inr (Or.inl (⟨e0, h⟩)))
  rwa [pos_of, pos_of] at this

theorem lt2 (a b : Int) (e0 : a / 1099511627776 % 256 = b / 1099511627776 % 256) (e1 : a / 4294967296 % 256 = b / 4294967296 % 256) (h : a / 16777216 % 256 < b / 16777216 % 256) : a % 281474976710656 < b % 281474976710656 := by
  have := lex_lt (a / 1099511627776 % 256) (a / 4294967296 % 256) (a / 16777216 % 256) (a / 65536 % 256) (a / 256 % 256) (a % 256) (b / 1099511627776 % 256) (b / 4294967296 % 256) (b / 16777216 % 256) (b / 65536 % 256) (b / 256 % 256) (b % 256) (by omega) (by omega) (by omega) (by omega) (by omega) (by omega) (by omega) (by omega) (by omega) (by omega) (by omega) (by omega) (by omega) (by omega) (by omega) (by omega) (by omega) (by omega) (by omega) (by omega) (by omega) (by omega) (by omega) (by omega) (Or.inr (Or.inr (Or.inl (⟨e0, e1, h⟩))))
  rwa [pos_of, pos_of] at this

theorem lt3 (a b : Int) (e0 : a / 1099511627776 % 256 = b / 1099511627776 % 256) (e1 : a / 4294967296 % 256 = b / 4294967296 % 256) (e2 : a / 16777216 % 256 = b / 16777216 % 256) (h : a / 65536 % 256 < b / 65536 % 256) : a % 281474976710656 < b % 281474976710656 := by
  have := lex_lt (a / 1099511627776 % 256) (a / 4294967296 % 256) (a / 16777216 % 256) (a / 65536 % 256) (a / 256 % 256) (a % 256) (b / 1099511627776 % 256) (b / 4294967296 % 256) (b / 16777216 % 256) (b / 65536 % 256) (b / 256 % 256) (b % 256) (by omega) (by omega) (by omega) (by omega) (by omega) (by omega) (by omega) (by omega) (by omega) (by omega) (by omega) (by omega) (by omega) (by omega) (by omega) (by omega) (by omega) (by omega) (by omega) (by omega) (by omega) (by omega) (by omega) (by omega) (Or.inr (Or.inr (Or.inr (Or.inl (⟨e0, e1, e2, h⟩)))))
  rwa [pos_of, pos_of] at this

theorem lt4 (a b : Int) (e0 : a / 1099511627776 % 256 = b / 1099511627776 % 256) (e1 : a / 4294967296 % 256 = b / 4294967296 % 256) (e2 : a / 16777216 % 256 = b / 16777216 % 256) (e3 : a / 65536 % 256 = b / 65536 % 256) (h : a / 256 % 256 < b / 256 % 256) : a % 281474976710656 < b % 281474976710656 := by
  have := lex_lt (a / 1099511627776 % 256) (a / 4294967296 % 256) (a / 16777216 % 256) (a / 65536 % 256) (a / 256 % 256) (a % 256) (b / 1099511627776 % 256) (b / 4294967296 % 256) (b / 16777216 % 256) (b / 65536 % 256) (b / 256 % 256) (b % 256) (by omega) (by omega) (by omega) (by omega) (by omega) (by omega) (by omega) (by omega) (by omega) (by omega) (by omega) (by omega) (by omega) (by omega) (by omega) (by omega) (by omega) (by omega) (by omega) (by omega) (by omega) (by omega) (by omega) (by omega) (Or.inr (Or.inr (Or.inr (Or.inr (Or.inl (⟨e0, e1, e2, e3, h⟩))))))
  rwa [pos_of, pos_of] at this

theorem lt5 (a b : Int) (e0 : a / 1099511627776 % 256 = b / 1099511627776 % 256) (e1 : a / 4294967296 % 256 = b / 4294967296 % 256) (e2 : a / 16777216 % 256 = b / 16777216 % 256) (e3 : a / 65536 % 256 = b / 65536 % 256) (e4 : a / 256 % 256 = b / 256 % 256) (h : a % 256 < b % 256) : a % 281474976710656 < b % 281474976710656 := by
  have := lex_lt (a / 1099511627776 % 256) (a / 4294967296 % 256) (a / 16777216 % 256) (a / 65536 % 256) (a / 256 % 256) (a % 256) (b / 1099511627776 % 256) (b / 4294967296 % 256) (b / 16777216 % 256) (b / 65536 % 256) (b / 256 % 256) (b % 256) (by omega) (by omega) (by omega) (by omega) (by omega) (by omega) (by omega) (by omega) (by omega) (by omega) (by omega) (by omega) (by omega) (by omega) (by omega) (by omega) (by omega) (by omega) (by omega) (by omega) (by omega) (by omega) (by omega) (by omega) (Or.inr (Or.inr (Or.inr (Or.inr (Or.inr (⟨e0, e1, e2, e3, e4, h⟩))))))
  rwa [pos_of, pos_of] at this

theorem eq6 (a b : Int) (e0 : a / 1099511627776 % 256 = b / 1099511627776 % 256) (e1 : a / 4294967296 % 256 = b / 4294967296 % 256) (e2 : a / 16777216 % 256 = b / 16777216 % 256) (e3 : a / 65536 % 256 = b / 65536 % 256) (e4 : a / 256 % 256 = b / 256 % 256) (e5 : a % 256 = b % 256) : a % 281474976710656 = b % 281474976710656 := by
  rw [← pos_of a, ← pos_of b, e0, e1, e2, e3, e4, e5]

/-! ### STEP 1: THE WALK: the Go text returns true. 'Grown w w'': the world has at most new blocks (Derived/RowKit3.lean). Part the cases AHEAD of 'go_enter' where a test parts the walk; take each callee by a contract of your own. -/
set_option maxRecDepth 100000 in
set_option maxHeartbeats 4000000 in
theorem walk (a0 : Int) (a1 : Int) (w0 : (Lit.int .u64 a0).wf = true) (w1 : (Lit.int .u64 a1).wf = true) (w : World) :
    Calls Try.prog 5 #[.int .u64 a0, .int .u64 a1] w fun e w' => e = .returned (.bool true) ∧ Grown w w' := by
  obtain ⟨l0, l1⟩ := bounds_u64 w0
  obtain ⟨l2, l3⟩ := bounds_u64 w1
  clear w0 w1
  have hs : 0 ≤ a0 ∧ a0 < 18446744073709551616 := ⟨l0, by omega⟩
  have ht : 0 ≤ a1 ∧ a1 < 18446744073709551616 := ⟨l2, by omega⟩
  go_enter Try.func5, Try.ntmps5
  go_wp2_with fail
  refine (bytes_any a0 hs.1 hs.2 _).mono ?_
  rintro e w1 ⟨rfl, c1, c2, rfl⟩
  go_wp2_with fail
  refine (bytes_any a1 ht.1 ht.2 _).mono ?_
  rintro e w1 ⟨rfl, c3, c4, rfl⟩
  go_wp2_with fail
  refine (byDiv_any a0 hs.1 hs.2 _).mono ?_
  rintro e w1 ⟨rfl, c5, n, rfl⟩
  go_wp2_with fail
  refine (byDiv_any a1 ht.1 ht.2 _).mono ?_
  rintro e w1 ⟨rfl, c6, m, rfl⟩
  go_wp2_with fail
  refine wp_loop_rounds 7 ?_
  rw [rounds_succ]
  by_cases h0 : a0 / 1099511627776 % 256 < a1 / 1099511627776 % 256
  · have hm := lt0 a0 a1  h0
    go_wp2; go_quiet (fail); go_wp2
    go_ret
    exact ⟨rfl, by repeat (first | exact Grown.refl _ | apply grown_drewN | apply Grown.drew | apply Grown.alloc)⟩
  by_cases g0 : a1 / 1099511627776 % 256 < a0 / 1099511627776 % 256
  · have hm := lt0 a1 a0  g0
    go_wp2; go_quiet (fail); go_wp2; go_quiet (fail); go_wp2
    go_ret
    exact ⟨rfl, by repeat (first | exact Grown.refl _ | apply grown_drewN | apply Grown.drew | apply Grown.alloc)⟩
  go_wp2; go_quiet (fail); go_wp2; go_quiet (fail); go_wp2
  rw [rounds_succ]
  by_cases h1 : a0 / 4294967296 % 256 < a1 / 4294967296 % 256
  · have hm := lt1 a0 a1 (Int.le_antisymm g0 h0) h1
    go_wp2; go_quiet (fail); go_wp2
    go_ret
    exact ⟨rfl, by repeat (first | exact Grown.refl _ | apply grown_drewN | apply Grown.drew | apply Grown.alloc)⟩
  by_cases g1 : a1 / 4294967296 % 256 < a0 / 4294967296 % 256
  · have hm := lt1 a1 a0 (Int.le_antisymm h0 g0) g1
    go_wp2; go_quiet (fail); go_wp2; go_quiet (fail); go_wp2
    go_ret
    exact ⟨rfl, by repeat (first | exact Grown.refl _ | apply grown_drewN | apply Grown.drew | apply Grown.alloc)⟩
  go_wp2; go_quiet (fail); go_wp2; go_quiet (fail); go_wp2
  rw [rounds_succ]
  by_cases h2 : a0 / 16777216 % 256 < a1 / 16777216 % 256
  · have hm := lt2 a0 a1 (Int.le_antisymm g0 h0) (Int.le_antisymm g1 h1) h2
    go_wp2; go_quiet (fail); go_wp2
    go_ret
    exact ⟨rfl, by repeat (first | exact Grown.refl _ | apply grown_drewN | apply Grown.drew | apply Grown.alloc)⟩
  by_cases g2 : a1 / 16777216 % 256 < a0 / 16777216 % 256
  · have hm := lt2 a1 a0 (Int.le_antisymm h0 g0) (Int.le_antisymm h1 g1) g2
    go_wp2; go_quiet (fail); go_wp2; go_quiet (fail); go_wp2
    go_ret
    exact ⟨rfl, by repeat (first | exact Grown.refl _ | apply grown_drewN | apply Grown.drew | apply Grown.alloc)⟩
  go_wp2; go_quiet (fail); go_wp2; go_quiet (fail); go_wp2
  rw [rounds_succ]
  by_cases h3 : a0 / 65536 % 256 < a1 / 65536 % 256
  · have hm := lt3 a0 a1 (Int.le_antisymm g0 h0) (Int.le_antisymm g1 h1) (Int.le_antisymm g2 h2) h3
    go_wp2; go_quiet (fail); go_wp2
    go_ret
    exact ⟨rfl, by repeat (first | exact Grown.refl _ | apply grown_drewN | apply Grown.drew | apply Grown.alloc)⟩
  by_cases g3 : a1 / 65536 % 256 < a0 / 65536 % 256
  · have hm := lt3 a1 a0 (Int.le_antisymm h0 g0) (Int.le_antisymm h1 g1) (Int.le_antisymm h2 g2) g3
    go_wp2; go_quiet (fail); go_wp2; go_quiet (fail); go_wp2
    go_ret
    exact ⟨rfl, by repeat (first | exact Grown.refl _ | apply grown_drewN | apply Grown.drew | apply Grown.alloc)⟩
  go_wp2; go_quiet (fail); go_wp2; go_quiet (fail); go_wp2
  rw [rounds_succ]
  by_cases h4 : a0 / 256 % 256 < a1 / 256 % 256
  · have hm := lt4 a0 a1 (Int.le_antisymm g0 h0) (Int.le_antisymm g1 h1) (Int.le_antisymm g2 h2) (Int.le_antisymm g3 h3) h4
    go_wp2; go_quiet (fail); go_wp2
    go_ret
    exact ⟨rfl, by repeat (first | exact Grown.refl _ | apply grown_drewN | apply Grown.drew | apply Grown.alloc)⟩
  by_cases g4 : a1 / 256 % 256 < a0 / 256 % 256
  · have hm := lt4 a1 a0 (Int.le_antisymm h0 g0) (Int.le_antisymm h1 g1) (Int.le_antisymm h2 g2) (Int.le_antisymm h3 g3) g4
    go_wp2; go_quiet (fail); go_wp2; go_quiet (fail); go_wp2
    go_ret
    exact ⟨rfl, by repeat (first | exact Grown.refl _ | apply grown_drewN | apply Grown.drew | apply Grown.alloc)⟩
  go_wp2; go_quiet (fail); go_wp2; go_quiet (fail); go_wp2
  rw [rounds_succ]
  by_cases h5 : a0 % 256 < a1 % 256
  · have hm := lt5 a0 a1 (Int.le_antisymm g0 h0) (Int.le_antisymm g1 h1) (Int.le_antisymm g2 h2) (Int.le_antisymm g3 h3) (Int.le_antisymm g4 h4) h5
    go_wp2; go_quiet (fail); go_wp2
    go_ret
    exact ⟨rfl, by repeat (first | exact Grown.refl _ | apply grown_drewN | apply Grown.drew | apply Grown.alloc)⟩
  by_cases g5 : a1 % 256 < a0 % 256
  · have hm := lt5 a1 a0 (Int.le_antisymm h0 g0) (Int.le_antisymm h1 g1) (Int.le_antisymm h2 g2) (Int.le_antisymm h3 g3) (Int.le_antisymm h4 g4) g5
    go_wp2; go_quiet (fail); go_wp2; go_quiet (fail); go_wp2
    go_ret
    exact ⟨rfl, by repeat (first | exact Grown.refl _ | apply grown_drewN | apply Grown.drew | apply Grown.alloc)⟩
  go_wp2; go_quiet (fail); go_wp2; go_quiet (fail); go_wp2
  rw [rounds_succ]
  have hm1 : ¬ a0 % 281474976710656 < a1 % 281474976710656 := by rw [eq6 a0 a1 (Int.le_antisymm g0 h0) (Int.le_antisymm g1 h1) (Int.le_antisymm g2 h2) (Int.le_antisymm g3 h3) (Int.le_antisymm g4 h4) (Int.le_antisymm g5 h5)]; omega
  have hm2 : ¬ a1 % 281474976710656 < a0 % 281474976710656 := by rw [eq6 a0 a1 (Int.le_antisymm g0 h0) (Int.le_antisymm g1 h1) (Int.le_antisymm g2 h2) (Int.le_antisymm g3 h3) (Int.le_antisymm g4 h4) (Int.le_antisymm g5 h5)]; omega
  go_wp2
  go_ret
  exact ⟨rfl, by repeat (first | exact Grown.refl _ | apply grown_drewN | apply Grown.drew | apply Grown.alloc)⟩

/-! ### THE ROW's STEP: WRITTEN OUT: LEAVE IT -/
set_option maxRecDepth 100000 in
theorem lifted (os : Os) (started : os.Started) (H : Type) (enc : TypeId × Value → H) :
    ReturnsInHanded {} Try.checked os 5 .any (Rows.fnBytesOrderAgreesWithNumberSpec.pre6 enc Try.prog Try.f5 Rows.fnBytesOrderAgreesWithNumberRow.domain false) (Rows.fnBytesOrderAgreesWithNumberSpec.post enc Try.prog Try.f5 false true false false) := by
  refine returnsInHanded_of_change (C := Try.checked) own started (by kernel_rfl) Try.func5
    (ChangeSpec.witness6 (enc := enc) (C := Try.checked) false ⟨#[], #[.int .u64 0, .int .u64 0], []⟩ 8 (by kernel_rfl) (by kernel_rfl) (by kernel_rfl) (by kernel_rfl)) ?_
  intro W base args ds gs before hval0 hW hcnd _
  have hval : ∀ (j : Nat) t v, Try.f5.params[j]? = some t → args[j]? = some v → Value.okWide Try.prog W .any base t v := hval0
  have hW' := hW
  obtain ⟨p, q, hA0, hV, rfl, hfz, hnd⟩ := hW
  have hA : DataW.TrodAll enc Try.prog W 0 (fun _ => true) true Try.f5.params.toList args.toList ds p := hA0
  rw [Try.params5] at hA hval
  obtain ⟨v0, vs0, d0, ds0, p0, q0, hargs, rfl, rfl, h0, r0⟩ := trodAll_cons hA
  obtain ⟨v1, vs1, d1, ds1, p1, q1, rfl, rfl, rfl, h1, r1⟩ := trodAll_cons r0
  obtain ⟨rfl, rfl, rfl⟩ := trodAll_nil r1
  obtain rfl : args = #[v0, v1] := by cases args; simp_all
  obtain ⟨rfl, rfl⟩ := trodVars_none hV
  obtain ⟨a0, rfl, rfl, rfl, w0⟩ := open_int Try.underlying23 (hval 0 23 v0 rfl rfl) h0
  obtain ⟨a1, rfl, rfl, rfl, w1⟩ := open_int Try.underlying23 (hval 1 23 v1 rfl rfl) h1
  clear hA0 hval0
  simp only [List.append_nil] at hW'
  refine (walk a0 a1 w0 w1 W).mono fun e W' ⟨he, hg⟩ => ?_
  subst he
  exact ⟨_, rfl, post_of_same (pa := []) (pv := []) hW' (fun _ _ _ => (trodAll_cons_mk (shut_bool Try.underlying4 _) trodAll_mk0)) (fun sp _ => (trodAll_cons_mk (shut_int Try.underlying23 w0) (trodAll_cons_mk (shut_int Try.underlying23 w1) trodAll_mk0))) (fun _ _ => rfl) rfl
    (hg.frame _) hg.2.1 (ok_one (by kernel_rfl) rfl (okWide_bool_mk Try.underlying4 _))⟩

theorem over : Rows.fnBytesOrderAgreesWithNumberRow.holds Try.pinned (OpenSpec.ofChange Rows.fnBytesOrderAgreesWithNumberSpec) :=
  OpenClaim.holds_of_wide 5 Try.f5 rfl rfl rfl rfl rfl rfl rfl ⟨rfl, rfl, rfl, rfl, rfl⟩ rfl rfl rfl rfl rfl (by kernel_rfl) Try.func5 (by kernel_rfl)
    (of_decide_eq_true (by kernel_rfl)) (by unfold Func.isWrapper; first | (rw [if_pos (by decide +kernel)]; kernel_rfl) | (rw [if_neg (by decide +kernel)]; exact ⟨rfl, rfl⟩))
    (fun os started H enc _ => lifted os started H enc)

/-- ████ THE STATEMENT ████ -/
theorem proved : Rows.FnBytesOrderAgreesWithNumberSaid :=
  over
end Go.Proofs.Qxb6003015a.fnBytesOrderAgreesWithNumber
