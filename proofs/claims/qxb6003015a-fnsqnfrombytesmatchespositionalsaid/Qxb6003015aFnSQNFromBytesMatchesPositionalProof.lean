import Derived.Test.Qxb6003015aRows
import Derived.Test.Qxb6003015aFrom
import Derived.WalkKit
import Derived.ProofKit
import Derived.OpenShut
namespace Go.Proofs.Qxb6003015a.fnSQNFromBytesMatchesPositional
open Go.ChangeShapes Go.WideShapes Go.ChangeAt Go.RowKit

theorem own : ownKnob Try.prog.godebug = none := by kernel_rfl
theorem cells22 : Try.prog.cellsOf 22 = 6 := by kernel_rfl
theorem cells5 : Try.prog.cellsOf 5 = 1 := by kernel_rfl

theorem bytes_back (b0 b1 b2 b3 b4 b5 : Int) (l0 : 0 ≤ b0) (u0 : b0 ≤ 255) (l1 : 0 ≤ b1) (u1 : b1 ≤ 255) (l2 : 0 ≤ b2) (u2 : b2 ≤ 255) (l3 : 0 ≤ b3) (u3 : b3 ≤ 255) (l4 : 0 ≤ b4) (u4 : b4 ≤ 255) (l5 : 0 ≤ b5) (u5 : b5 ≤ 255) (w : World) :
    Calls Try.prog 8 #[.int .u64 (((((b0 * 256 + b1) * 256 + b2) * 256 + b3) * 256 + b4) * 256 + b5)] w fun e w' => e = .returned (.agg #[.int .u8 b0, .int .u8 b1, .int .u8 b2, .int .u8 b3, .int .u8 b4, .int .u8 b5]) ∧ ∃ c1 c2 : Array Value, w' = (w.alloc (.cells c1 22)).alloc (.cells c2 22) := by
  have e0 : (((((b0 * 256 + b1) * 256 + b2) * 256 + b3) * 256 + b4) * 256 + b5) / 1099511627776 % 256 = b0 := by omega
  have e1 : (((((b0 * 256 + b1) * 256 + b2) * 256 + b3) * 256 + b4) * 256 + b5) / 4294967296 % 256 = b1 := by omega
  have e2 : (((((b0 * 256 + b1) * 256 + b2) * 256 + b3) * 256 + b4) * 256 + b5) / 16777216 % 256 = b2 := by omega
  have e3 : (((((b0 * 256 + b1) * 256 + b2) * 256 + b3) * 256 + b4) * 256 + b5) / 65536 % 256 = b3 := by omega
  have e4 : (((((b0 * 256 + b1) * 256 + b2) * 256 + b3) * 256 + b4) * 256 + b5) / 256 % 256 = b4 := by omega
  have e5 : (((((b0 * 256 + b1) * 256 + b2) * 256 + b3) * 256 + b4) * 256 + b5) % 256 = b5 := by omega
  refine (bytes_any (((((b0 * 256 + b1) * 256 + b2) * 256 + b3) * 256 + b4) * 256 + b5) (by omega) (by omega) w).mono ?_
  rintro e w1 ⟨rfl, hw⟩
  rw [e0, e1, e2, e3, e4, e5]
  exact ⟨rfl, hw⟩

theorem eq22 (b0 b1 b2 b3 b4 b5 : Int) (w : World) : (Op.equalIn 10000 22 (.agg #[.int .u8 b0, .int .u8 b1, .int .u8 b2, .int .u8 b3, .int .u8 b4, .int .u8 b5]) (.agg #[.int .u8 b0, .int .u8 b1, .int .u8 b2, .int .u8 b3, .int .u8 b4, .int .u8 b5])).run Try.prog w = .ok true w := by
  have u5 := Try.underlying5
  have a5 := Try.isAgg5
  have z5 := Try.sizeOf5
  rw [show (10000 : Nat) = 9999 + 1 from rfl, Op.equalIn]
  simp only [Sem.run_bind, run_underlying Try.underlying22, Result.andThen_ok]
  simp only [Std.Legacy.Range.forIn_eq_forIn_range', Std.Legacy.Range.size, Nat.sub_zero, Nat.add_sub_cancel, Nat.div_one, List.range'_succ, List.range'_zero, List.forIn_cons, List.forIn_nil]
  go_simp

set_option maxRecDepth 100000 in
set_option maxHeartbeats 1000000 in
theorem walk (b0 b1 b2 b3 b4 b5 : Int) (l0 : 0 ≤ b0) (u0 : b0 ≤ 255) (l1 : 0 ≤ b1) (u1 : b1 ≤ 255) (l2 : 0 ≤ b2) (u2 : b2 ≤ 255) (l3 : 0 ≤ b3) (u3 : b3 ≤ 255) (l4 : 0 ≤ b4) (u4 : b4 ≤ 255) (l5 : 0 ≤ b5) (u5 : b5 ≤ 255) (w : World) :
    Calls Try.prog 3 #[.agg #[.int .u8 b0, .int .u8 b1, .int .u8 b2, .int .u8 b3, .int .u8 b4, .int .u8 b5]] w fun e w' => e = .returned (.bool true) ∧ Grown w w' := by
  have heq := eq22 b0 b1 b2 b3 b4 b5
  go_enter Try.func3, Try.ntmps3
  go_wp2_with fail
  refine (from_any _ _ _ _ _ _ (by omega) (by omega) (by omega) (by omega) (by omega) (by omega) _).mono ?_
  rintro e w1 ⟨rfl, rfl⟩
  go_wp2_with fail
  refine wp_loop_rounds 7 ?_
  rw [rounds_succ]; go_wp2
  rw [rounds_succ]; go_wp2
  rw [rounds_succ]; go_wp2
  rw [rounds_succ]; go_wp2
  rw [rounds_succ]; go_wp2
  rw [rounds_succ]; go_wp2
  rw [rounds_succ]; go_wp2
  go_region_held3 (fun w' => w'.cell? ⟨w.heap.size, 0, none⟩ = some (.int .u8 b0) ∧ w'.cell? ⟨w.heap.size, 1, none⟩ = some (.int .u8 b1) ∧ w'.cell? ⟨w.heap.size, 2, none⟩ = some (.int .u8 b2) ∧ w'.cell? ⟨w.heap.size, 3, none⟩ = some (.int .u8 b3) ∧ w'.cell? ⟨w.heap.size, 4, none⟩ = some (.int .u8 b4) ∧ w'.cell? ⟨w.heap.size, 5, none⟩ = some (.int .u8 b5)) (simp [go_sem, World.cell?_alloc_past])
    (first
      | (go_at_call 8; refine (bytes_back b0 b1 b2 b3 b4 b5 l0 u0 l1 u1 l2 u2 l3 u3 l4 u4 l5 u5 _).mono ?_; rintro e w' ⟨rfl, o1, o2, rfl⟩))
  go_wp2
  go_ret
  exact ⟨rfl, by repeat (first | exact Grown.refl _ | apply grown_drewN | apply Grown.drew | apply Grown.alloc)⟩

theorem list6 {α : Type} (l : List α) (h : (⟨l⟩ : Array α).size = 6) : ∃ a b c d e f, l = [a, b, c, d, e, f] := by
  match l, h with
  | [a, b, c, d, e, f], _ => exact ⟨a, b, c, d, e, f, rfl⟩

theorem trod_array6 {H : Type} {enc : TypeId × Value → H} {P : Program} {w : World} {base : Nat} {spare : Nat → Bool} {held : Bool} {t e : TypeId} {fuel : Nat} {c0 c1 c2 c3 c4 c5 : Value} {x : DataW H × List MemPlace} (ht : P.underlying t = some (.array 6 e)) (hce : P.cellsOf e = 1)
    (h : DataW.trod enc P w base spare held fuel t [c0, c1, c2, c3, c4, c5] = some x) :
    ∃ y0 y1 y2 y3 y4 y5 n, x = (.agg [y0.1, y1.1, y2.1, y3.1, y4.1, y5.1], y0.2 ++ (y1.2 ++ (y2.2 ++ (y3.2 ++ (y4.2 ++ y5.2))))) ∧ DataW.trod enc P w base spare held n e [c0] = some y0 ∧ DataW.trod enc P w base spare held n e [c1] = some y1 ∧ DataW.trod enc P w base spare held n e [c2] = some y2 ∧ DataW.trod enc P w base spare held n e [c3] = some y3 ∧ DataW.trod enc P w base spare held n e [c4] = some y4 ∧ DataW.trod enc P w base spare held n e [c5] = some y5 := by
  cases fuel with
  | zero => simp [DataW.trod] at h
  | succ n =>
    unfold DataW.trod at h
    rw [ht] at h
    have r6 : List.range 6 = [0, 1, 2, 3, 4, 5] := rfl
    simp [r6, hce] at h
    obtain ⟨_, h⟩ := h
    cases h0 : DataW.trod enc P w base spare held n e [c0] with
    | none => simp [h0] at h
    | some y0 =>
      cases h1 : DataW.trod enc P w base spare held n e [c1] with
      | none => simp [h0, h1] at h
      | some y1 =>
        cases h2 : DataW.trod enc P w base spare held n e [c2] with
        | none => simp [h0, h1, h2] at h
        | some y2 =>
          cases h3 : DataW.trod enc P w base spare held n e [c3] with
          | none => simp [h0, h1, h2, h3] at h
          | some y3 =>
            cases h4 : DataW.trod enc P w base spare held n e [c4] with
            | none => simp [h0, h1, h2, h3, h4] at h
            | some y4 =>
              cases h5 : DataW.trod enc P w base spare held n e [c5] with
              | none => simp [h0, h1, h2, h3, h4, h5] at h
              | some y5 =>
                simp [h0, h1, h2, h3, h4, h5] at h
                exact ⟨y0, y1, y2, y3, y4, y5, n, h.symm, h0, h1, h2, h3, h4, h5⟩

set_option maxHeartbeats 1000000 in
set_option maxRecDepth 100000 in
theorem lifted (os : Os) (started : os.Started) (H : Type) (enc : TypeId × Value → H) :
    ReturnsInHanded {} Try.checked os 3 .any (Rows.fnSQNFromBytesMatchesPositionalSpec.pre6 enc Try.prog Try.f3 Rows.fnSQNFromBytesMatchesPositionalRow.domain false) (Rows.fnSQNFromBytesMatchesPositionalSpec.post enc Try.prog Try.f3 false true false false) := by
  refine returnsInHanded_of_change (C := Try.checked) own started (by kernel_rfl) Try.func3
    (ChangeSpec.witness6 (enc := enc) (C := Try.checked) false ⟨#[], #[.agg #[.int .u8 0, .int .u8 0, .int .u8 0, .int .u8 0, .int .u8 0, .int .u8 0]], []⟩ 8 (by kernel_rfl) (by kernel_rfl) (by kernel_rfl) (by kernel_rfl)) ?_
  intro W base args ds gs before hval0 hW hcnd _
  have hval : ∀ (j : Nat) t v, Try.f3.params[j]? = some t → args[j]? = some v → Value.okWide Try.prog W .any base t v := hval0
  have hW' := hW
  obtain ⟨p, q, hA0, hV, rfl, hfz, hnd⟩ := hW
  have hA : DataW.TrodAll enc Try.prog W 0 (fun _ => true) true Try.f3.params.toList args.toList ds p := hA0
  rw [Try.params3] at hA hval
  obtain ⟨v0, d0, rfl, rfl, h0⟩ := trodAll_one hA
  obtain ⟨rfl, rfl⟩ := trodVars_none hV
  obtain ⟨cs, rfl, hsz, _⟩ : ∃ cs, v0 = .agg cs ∧ cs.size = Try.prog.cellsOf 22 ∧ Row.okWide Try.prog W .any base 22 cs := by
    have := hval 0 22 v0 rfl rfl
    simpa [Value.okWide, Try.underlying22] using this
  rw [cells22] at hsz
  obtain ⟨l⟩ := cs
  obtain ⟨c0, c1, c2, c3, c4, c5, rfl⟩ := list6 l hsz
  obtain ⟨fuel, hf⟩ := h0
  obtain ⟨y0, y1, y2, y3, y4, y5, m, hx, hy0, hy1, hy2, hy3, hy4, hy5⟩ := trod_array6 Try.underlying22 cells5 hf
  obtain ⟨b0, e0, rfl, w0⟩ := DataW.trod_int Try.underlying5 hy0
  obtain ⟨b1, e1, rfl, w1⟩ := DataW.trod_int Try.underlying5 hy1
  obtain ⟨b2, e2, rfl, w2⟩ := DataW.trod_int Try.underlying5 hy2
  obtain ⟨b3, e3, rfl, w3⟩ := DataW.trod_int Try.underlying5 hy3
  obtain ⟨b4, e4, rfl, w4⟩ := DataW.trod_int Try.underlying5 hy4
  obtain ⟨b5, e5, rfl, w5⟩ := DataW.trod_int Try.underlying5 hy5
  simp at e0 e1 e2 e3 e4 e5
  subst e0 e1 e2 e3 e4 e5
  simp only [Prod.mk.injEq] at hx
  obtain ⟨rfl, rfl⟩ := hx
  clear hA0 hval0
  simp only [List.append_nil] at hW'
  refine (walk b0 b1 b2 b3 b4 b5 (bounds_u8 w0).1 (bounds_u8 w0).2 (bounds_u8 w1).1 (bounds_u8 w1).2 (bounds_u8 w2).1 (bounds_u8 w2).2 (bounds_u8 w3).1 (bounds_u8 w3).2 (bounds_u8 w4).1 (bounds_u8 w4).2 (bounds_u8 w5).1 (bounds_u8 w5).2 W).mono fun e W' ⟨he, hg⟩ => ?_
  subst he
  have rdA : ∀ sp : Nat → Bool, DataW.Trod enc Try.prog W' 0 sp true 22 (.agg #[.int .u8 b0, .int .u8 b1, .int .u8 b2, .int .u8 b3, .int .u8 b4, .int .u8 b5]) (DataW.agg [.lit (.int .u8 b0), .lit (.int .u8 b1), .lit (.int .u8 b2), .lit (.int .u8 b3), .lit (.int .u8 b4), .lit (.int .u8 b5)]) [] := fun sp => ⟨2, by simp [DataW.trod, Value.cells, Try.underlying22, Try.underlying5, cells22, cells5, w0, w1, w2, w3, w4, w5, show List.range 6 = [0, 1, 2, 3, 4, 5] from rfl]⟩
  exact ⟨_, rfl, post_of_same (pa := []) (pv := []) hW' (fun _ _ _ => trodAll_mk1 (shut_bool Try.underlying4 _)) (fun sp _ => trodAll_mk1 (rdA sp)) (fun _ _ => rfl) rfl
    (hg.frame _) hg.2.1 (ok_one (by kernel_rfl) rfl (okWide_bool_mk Try.underlying4 _))⟩

theorem over : Rows.fnSQNFromBytesMatchesPositionalRow.holds Try.pinned (OpenSpec.ofChange Rows.fnSQNFromBytesMatchesPositionalSpec) :=
  OpenClaim.holds_of_wide 3 Try.f3 rfl rfl rfl rfl rfl rfl rfl ⟨rfl, rfl, rfl, rfl, rfl⟩ rfl rfl rfl rfl rfl (by kernel_rfl) Try.func3 (by kernel_rfl)
    (of_decide_eq_true (by kernel_rfl)) (by unfold Func.isWrapper; first | (rw [if_pos (by decide +kernel)]; kernel_rfl) | (rw [if_neg (by decide +kernel)]; exact ⟨rfl, rfl⟩))
    (fun os started H enc _ => lifted os started H enc)

theorem proved : Rows.FnSQNFromBytesMatchesPositionalSaid :=
  over
end Go.Proofs.Qxb6003015a.fnSQNFromBytesMatchesPositional
