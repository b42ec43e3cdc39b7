import Derived.Test.Qxb6603516aMem
import Derived.Maps.OwnSet
namespace Go.Proofs.Qxb6603516a
open Go.RowKit Go.Maps

/-- How an element of the two maps reads: is it there? -/
def rdMap : Value → Option (DataW Unit × List MemPlace)
  | .map (some _) => some (.lit (.bool true), [])
  | .map none => some (.lit (.bool false), [])
  | _ => none
def rdPtr : Value → Option (DataW Unit × List MemPlace)
  | .pointer (some _) => some (.lit (.bool true), [])
  | .pointer none => some (.lit (.bool false), [])
  | _ => none
theorem rdMap_true {v : Value} {ps : List MemPlace} (h : rdMap v = some (.lit (.bool true), ps)) : ∃ b, v = .map (some b) := by
  cases v with
  | map m => cases m with
    | none => simp [rdMap] at h
    | some b => exact ⟨b, rfl⟩
  | _ => simp [rdMap] at h
theorem rdMap_false {v : Value} {ps : List MemPlace} (h : rdMap v = some (.lit (.bool false), ps)) : v = .map none := by
  cases v with
  | map m => cases m with
    | none => rfl
    | some b => simp [rdMap] at h
  | _ => simp [rdMap] at h
theorem rdPtr_false {v : Value} {ps : List MemPlace} (h : rdPtr v = some (.lit (.bool false), ps)) : v = .pointer none := by
  cases v with
  | pointer m => cases m with
    | none => rfl
    | some b => simp [rdPtr] at h
  | _ => simp [rdPtr] at h

theorem law : Keyed Try.prog 9 := string_keyed Try.underlying9
theorem key_of (x : Str) (h : x.length ≤ maxLen) : keyOf Try.prog 9 (.string ⟨x.toArray⟩) = some (.string x) := by
  simpa using WideMaps.keyOf_string_mk (s := ⟨x.toArray⟩) Try.underlying9 (by show x.toArray.size ≤ maxLen; simpa using h)
theorem zero35 (w : World) : (zeroValue 35).run Try.prog w = .ok (.map none) w := by kernel_rfl
theorem zero26 (w : World) : (zeroValue 26).run Try.prog w = .ok (.pointer none) w := by kernel_rfl

/-- Every element is there. -/
def AllOn (D : DataW Unit) : Prop := IsMap D ∧ ∀ kl, D.atKey kl (.lit (.bool false)) = .lit (.bool (Maps.has D kl))
theorem allOn_empty : AllOn (.map []) := ⟨isMap_empty, fun _ => rfl⟩
theorem allOn_put {D : DataW Unit} (h : AllOn D) {kl : Lit} (hk : WideAt.IsKeyLit kl) : AllOn (D.put kl (.lit (.bool true))) := by
  refine ⟨h.1.put _ _, fun k => ?_⟩
  by_cases e : k = kl
  · subst e
    rw [atKey_put_same h.1 hk, has_put_same h.1 hk]
  · rw [atKey_put_other e, has_put_other e]
    exact h.2 k

/-- Merged rules in memory: at block R; their map in block M; their labels v. -/
def MR (w : World) (B R M n : Nat) (D : DataW Unit) (v : Value) : Prop :=
  w.cell? ⟨R, 0, none⟩ = some (.map (some M)) ∧ w.cell? ⟨R, 1, none⟩ = some v ∧ w.frozen? ⟨R, 1, none⟩ = false ∧ B ≤ R ∧ R < w.heap.size ∧ B ≤ M ∧ R ≠ M ∧ w.ownsMap Try.prog 9 rdMap M n D ∧ AllOn D

/-- All blocks but R and M are as they were. -/
structure Kept (R M : Nat) (w w' : World) : Prop where
  os : w'.os = w.os
  tape : w'.tape = w.tape
  output : w'.output = w.output
  size : w.heap.size ≤ w'.heap.size
  block : ∀ k, k < w.heap.size → k ≠ R → k ≠ M → w'.heap[k]? = w.heap[k]?

theorem Kept.refl (R M : Nat) (w : World) : Kept R M w w := ⟨rfl, rfl, rfl, Nat.le_refl _, fun _ _ _ _ => rfl⟩
theorem Kept.trans {R M : Nat} {a b c : World} (h : Kept R M a b) (k : Kept R M b c) : Kept R M a c :=
  ⟨k.os.trans h.os, k.tape.trans h.tape, k.output.trans h.output, Nat.le_trans h.size k.size, fun i hi h1 h2 => (k.block i (Nat.lt_of_lt_of_le hi h.size) h1 h2).trans (h.block i hi h1 h2)⟩
theorem Kept.below {R M B : Nat} {w w' : World} (h : Kept R M w w') (h1 : B ≤ R) (h2 : B ≤ M) (h3 : B ≤ w.heap.size) : Below B w w' :=
  ⟨h.os, h.tape, h.output, h.size, fun k hk => h.block k (by omega) (by omega) (by omega)⟩
theorem Kept.of_grown {R M : Nat} {w w' : World} (h : w.grownBy w' (some M)) : Kept R M w w' :=
  ⟨h.os, h.tape, h.output, h.size, fun k hk _ h2 => h.block k hk (by simpa using h2)⟩
theorem Kept.of_below {R M : Nat} {w w' : World} (h : Below w.heap.size w w') : Kept R M w w' :=
  ⟨h.os, h.tape, h.output, h.size, fun k hk _ _ => h.block k hk⟩
theorem Kept.drewN {R M : Nat} {a w : World} (h : Kept R M a w) (n : Nat) : Kept R M a (w.drewN n) := ⟨h.os, h.tape, h.output, h.size, h.block⟩

/-- A slice of strings that lies outside R and M. -/
def SK (w : World) (R M : Nat) (a : Option Addr) (n : Nat) (xs : List Str) : Prop :=
  xs.length = n ∧ (∀ x ∈ xs, x.length ≤ maxLen) ∧ (a = none → n = 0) ∧
  (0 < n → ∃ b off, a = some ⟨b, off, none⟩ ∧ b < w.heap.size ∧ b ≠ R ∧ b ≠ M ∧ ∀ i, i < n → w.cell? ⟨b, off + i, none⟩ = some (.string ⟨(xs.getD i []).toArray⟩))
theorem SK.carry {w w' : World} {R M : Nat} {a : Option Addr} {n : Nat} {zs : List Str} (h : SK w R M a n zs) (hk : Kept R M w w') : SK w' R M a n zs :=
  ⟨h.1, h.2.1, h.2.2.1, fun h0 => by
    obtain ⟨b, off, e, hB, h1, h2, hc⟩ := h.2.2.2 h0
    exact ⟨b, off, e, Nat.lt_of_lt_of_le hB hk.size, h1, h2, fun i hi => (World.cell?_of_block (a := ⟨b, off + i, none⟩) (hk.block b hB h1 h2)).trans (hc i hi)⟩⟩
theorem SK.ss {w : World} {R M : Nat} {a : Option Addr} {n : Nat} {zs : List Str} (h : SK w R M a n zs) : SS w w.heap.size a n zs :=
  ⟨h.1, h.2.1, h.2.2.1, fun h0 => by
    obtain ⟨b, off, e, hB, h1, h2, hc⟩ := h.2.2.2 h0
    exact ⟨b, off, e, hB, hc⟩⟩
theorem SS.sk {w : World} {B R M : Nat} {a : Option Addr} {n : Nat} {zs : List Str} (h : SS w B a n zs) (h1 : B ≤ R) (h2 : B ≤ M) (h3 : B ≤ w.heap.size) : SK w R M a n zs :=
  ⟨h.1, h.2.1, h.2.2.1, fun h0 => by
    obtain ⟨b, off, e, hB, hc⟩ := h.2.2.2 h0
    exact ⟨b, off, e, by omega, by omega, by omega, hc⟩⟩

theorem run_eq35 (m : Option Nat) (w : World) : (binOp .eql 35 (.map m) (.map none)).run Try.prog w = .ok (.bool m.isNone) w := run_eql_map_nil w 35 _ _ m Try.underlying35

set_option maxHeartbeats 1000000 in
theorem rule_there (B R M n : Nat) (D : DataW Unit) (v : Value) (x : Str) (w : World) (h : MR w B R M n D v) (hx : x.length ≤ maxLen) (hh : Maps.has D (.string x) = true) :
    Calls Try.prog 16 #[.pointer (some ⟨R, 0, none⟩), .string ⟨x.toArray⟩] w fun e w' => (∃ u, e = .returned u) ∧ w = w' := by
  obtain ⟨c0, c1, f1, hBR, hR, hBM, hRM, hown, hon⟩ := h
  obtain ⟨u, ps, hrun, hu⟩ := hown.lookup law Try.underlying37 (zero35 _) (zd := .lit (.bool false)) (zp := []) rfl (key_of x hx)
  rw [hon.2, hh] at hu
  obtain ⟨b, rfl⟩ := rdMap_true hu
  have he := run_eq35 (some b)
  simp only [Option.isNone_some] at he
  clear hown hon hu hh
  go_enter Try.func16, Try.ntmps16
  go_wp2
  go_ret
  exact ⟨⟨_, rfl⟩, rfl⟩

set_option maxHeartbeats 1000000 in
theorem rule_new (B R M n : Nat) (D : DataW Unit) (v : Value) (x : Str) (w : World) (h : MR w B R M n D v) (hx : x.length ≤ maxLen) (hh : Maps.has D (.string x) = false) (hn : n < maxLen) :
    Calls Try.prog 16 #[.pointer (some ⟨R, 0, none⟩), .string ⟨x.toArray⟩] w fun e w' => (∃ u, e = .returned u) ∧ MR w' B R M (n + 1) (D.put (.string x) (.lit (.bool true))) v ∧ Kept R M w w' := by
  obtain ⟨c0, c1, f1, hBR, hR, hBM, hRM, hown, hon⟩ := h
  obtain ⟨u, ps, hrun, hu⟩ := hown.lookup law Try.underlying37 (zero35 _) (zd := .lit (.bool false)) (zp := []) rfl (key_of x hx)
  rw [hon.2, hh] at hu
  obtain rfl := rdMap_false hu
  have he := run_eq35 none
  simp only [Option.isNone_none] at he
  have hmm := @run_makeMap Try.prog
  have HON := hide hon
  have HBM := hide hBM
  have hk := hide (key_of x hx)
  clear hon hu hh
  go_enter Try.func16, Try.ntmps16
  go_wp2_with (first
    | (at_mapUpdate; refine wpList_mapUpdate_own _ rfl _ _ _ 37 rfl 9 35 law Try.underlying37 rdMap M n D rfl (hown.alloc _) hn _ _ _ rfl rfl (unhide hk) (.lit (.bool true)) [] rfl ?_))
  intro w1 hown1 hg1
  have hsz : w.heap.size + 1 ≤ w1.heap.size := by simpa using hg1.size
  have k0 : w1.cell? ⟨R, 0, none⟩ = some (.map (some M)) := hg1.cell (by rw [World.cell?_alloc_past _ _ _ hR]; exact c0) (by simp; exact hRM)
  have k1 : w1.cell? ⟨R, 1, none⟩ = some v := hg1.cell (by rw [World.cell?_alloc_past _ _ _ hR]; exact c1) (by simp; exact hRM)
  have k2 : w1.frozen? ⟨R, 1, none⟩ = false := by
    rw [World.frozen?_of_block (w := w.alloc (.map #[] 0)) (hg1.block R (by simp; omega) (by simp; exact hRM))]
    rw [World.frozen?_of_block (w := w) (Below.heap_alloc w _ R hR)]
    exact f1
  have HMR : Hid (MR w1 B R M (n + 1) (D.put (.string x) (.lit (.bool true))) v) := hide ⟨k0, k1, k2, hBR, by omega, unhide HBM, hRM, hown1, allOn_put (unhide HON) (by trivial)⟩
  have HB : Hid (Kept R M w w1) := hide ((Kept.of_below ((Below.refl _ _).alloc (Nat.le_refl _) _)).trans (Kept.of_grown hg1))
  clear hown1 hg1 k0 k1 k2 hown
  go_wp2
  go_ret
  exact ⟨⟨_, rfl⟩, unhide HMR, unhide HB⟩

theorem rule_any (B R M n : Nat) (D : DataW Unit) (v : Value) (x : Str) (w : World) (h : MR w B R M n D v) (hx : x.length ≤ maxLen) (hn : n < maxLen) :
    Calls Try.prog 16 #[.pointer (some ⟨R, 0, none⟩), .string ⟨x.toArray⟩] w fun e w' => (∃ u, e = .returned u) ∧ ∃ D', MR w' B R M (n + 1) D' v ∧ Kept R M w w' ∧ ∀ y : Str, Maps.has D' (.string y) = true ↔ Maps.has D (.string y) = true ∨ y = x := by
  cases hh : Maps.has D (.string x) with
  | true =>
    refine (rule_there B R M n D v x w h hx hh).mono ?_
    rintro e w' ⟨hu, rfl⟩
    obtain ⟨c0, c1, f1, hBR, hR, hBM, hRM, hown, hon⟩ := h
    refine ⟨hu, D, ⟨c0, c1, f1, hBR, hR, hBM, hRM, hown.mono (Nat.le_succ _), hon⟩, Kept.refl _ _ _, fun y => ⟨.inl, ?_⟩⟩
    rintro (h | rfl)
    · exact h
    · exact hh
  | false =>
    have hM : IsMap D := h.2.2.2.2.2.2.2.2.1
    refine (rule_new B R M n D v x w h hx hh hn).mono ?_
    rintro e w' ⟨hu, hmr, hb⟩
    refine ⟨hu, _, hmr, hb, fun y => ?_⟩
    by_cases e : y = x
    · subst e
      simp [has_put_same hM (show WideAt.IsKeyLit (.string y) from trivial)]
    · have hne : (Lit.string y) ≠ .string x := fun h => e (by simpa using h)
      rw [has_put_other hne]
      simp [e]

theorem zzrule_any (B R M n : Nat) (D : DataW Unit) (v : Value) (x : Str) (w : World) (h : MR w B R M n D v) (hx : x.length ≤ maxLen) (hn : n < maxLen) :
    Calls Try.prog 9 #[.pointer (some ⟨R, 0, none⟩), .string ⟨x.toArray⟩] w fun e w' => e = .returned (.tuple #[]) ∧ ∃ D', MR w' B R M (n + 1) D' v ∧ Kept R M w w' ∧ ∀ y : Str, Maps.has D' (.string y) = true ↔ Maps.has D (.string y) = true ∨ y = x := by
  go_enter Try.func9, Try.ntmps9
  go_wp2_with fail
  refine (rule_any B R M n D v x w h hx hn).mono ?_
  rintro e w1 ⟨⟨u, rfl⟩, D', hD⟩
  have H := hide hD
  clear hD h
  go_wp2
  go_end0
  exact ⟨rfl, D', unhide H⟩

/-! ### ZZnewMergedRules: rulesAt at a new map and the empty string -/
set_option maxHeartbeats 1000000 in
theorem rulesAt_empty (w : World) (b : Nat) (hown : w.ownsMap Try.prog 9 rdPtr b 0 (.map [])) (B : Nat) (hB : B ≤ b) :
    Calls Try.prog 15 #[.map (some b), .string ⟨#[]⟩] w fun e w' => ∃ R M, e = .returned (.pointer (some ⟨R, 0, none⟩)) ∧ MR w' w.heap.size R M 0 (.map []) (.slice none 0 0) ∧ Below B w w' := by
  have hbl := hown.lt
  have hk0 : keyOf Try.prog 9 (.string ⟨#[]⟩) = some (.string []) := key_of [] (Nat.zero_le _)
  obtain ⟨u, ps, hrun, hu⟩ := hown.lookup law Try.underlying33 (zero26 _) (zd := .lit (.bool false)) (zp := []) rfl hk0
  obtain rfl := rdPtr_false hu
  have hmm := @run_makeMap Try.prog
  have hk := hide hk0
  clear hu hk0
  go_enter Try.func15, Try.ntmps15
  go_wp2_with (first
    | (at_mapUpdate; refine wpList_mapUpdate_own _ rfl _ _ _ 33 rfl 9 26 law Try.underlying33 rdPtr b 0 (.map []) rfl ((hown.alloc _).alloc _) (by decide) _ _ _ rfl rfl (unhide hk) (.lit (.bool true)) [] rfl ?_))
  intro w1 hown1 hg1
  have hsz : w.heap.size + 2 ≤ w1.heap.size := by simpa using hg1.size
  have e1 : (w.alloc (.map #[] 0)).heap.size = w.heap.size + 1 := by simp
  have k0 : w1.cell? ⟨w.heap.size + 1, 0, none⟩ = some (.map (some w.heap.size)) := hg1.cell (by simp) (by simp; omega)
  have k1 : w1.cell? ⟨w.heap.size + 1, 1, none⟩ = some (.slice none 0 0) := hg1.cell (by simp) (by simp; omega)
  have k2 : w1.frozen? ⟨w.heap.size + 1, 1, none⟩ = false := by
    rw [World.frozen?_of_block (w := (w.alloc (.map #[] 0)).alloc (.cells #[.map (some w.heap.size), .slice none 0 0] 39)) (hg1.block (w.heap.size + 1) (by simp) (by simp; omega))]
    simp
  have HMR : Hid (MR w1 w.heap.size (w.heap.size + 1) w.heap.size 0 (.map []) (.slice none 0 0)) :=
    hide ⟨k0, k1, k2, by omega, by omega, Nat.le_refl _, by omega, ((World.ownsMap_made w Try.prog 9 rdMap).alloc _).kept hg1 (by simp; omega), allOn_empty⟩
  have HB : Hid (Below B w w1) := hide ((((Below.refl _ _).alloc (by omega) _).alloc (by simp; omega) _).grown hg1 (by simp; omega) (fun q hq => by cases hq; exact hB))
  clear hown1 hg1 k0 k1 k2 hown
  go_wp2
  go_ret
  exact ⟨_, _, rfl, unhide HMR, unhide HB⟩

theorem MR.mono {w : World} {B B' R M n : Nat} {D : DataW Unit} {v : Value} (h : MR w B R M n D v) (hB : B' ≤ B) : MR w B' R M n D v := by
  obtain ⟨c0, c1, f1, hBR, hR, hBM, hRM, hown, hon⟩ := h
  exact ⟨c0, c1, f1, Nat.le_trans hB hBR, hR, Nat.le_trans hB hBM, hRM, hown, hon⟩

theorem newRules (w : World) :
    Calls Try.prog 8 #[] w fun e w' => ∃ R M, e = .returned (.pointer (some ⟨R, 0, none⟩)) ∧ MR w' w.heap.size R M 0 (.map []) (.slice none 0 0) ∧ Below w.heap.size w w' := by
  have hmm := @run_makeMap Try.prog
  have hown := hide (World.ownsMap_made w Try.prog 9 rdPtr)
  go_enter Try.func8, Try.ntmps8
  go_wp2_with fail
  refine (rulesAt_empty _ w.heap.size (unhide hown) w.heap.size (Nat.le_refl _)).mono ?_
  rintro e w1 ⟨R, M, rfl, hmr, hb⟩
  have HMR := hide (hmr.mono (B' := w.heap.size) (by simp))
  have HB : Hid (Below w.heap.size w w1) := hide (((Below.refl _ _).alloc (Nat.le_refl _) _).trans hb)
  clear hmr hb hown
  go_wp2
  go_ret
  exact ⟨_, _, rfl, unhide HMR, unhide HB⟩
end Go.Proofs.Qxb6603516a
