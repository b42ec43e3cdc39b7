import Derived.Test.Qxb6603516aIter
import Derived.Test.Qxb6603516aRules
import Derived.Test.Qxb6603516aPlain
import Derived.Sort.KeysCollected
namespace Go.Proofs.Qxb6603516a
open Go.RowKit Go.Maps Go.Sort Go.Shelf

theorem nodup_map {es : List (Lit × DataW Unit)} (hk : ∀ p ∈ es, ∃ x, p.1 = .string x) (hp : es.Pairwise (fun p q => p.1 ≠ q.1)) : (es.map fun p => strOf p.1).Nodup := by
  induction es with
  | nil => exact List.Pairwise.nil
  | cons a es ih =>
    obtain ⟨h1, h2⟩ := List.pairwise_cons.1 hp
    refine List.pairwise_cons.2 ⟨fun b hb e => ?_, ih (fun p hp => hk p (List.mem_cons_of_mem _ hp)) h2⟩
    obtain ⟨q, hq, rfl⟩ := List.mem_map.1 hb
    obtain ⟨x, hx⟩ := hk a List.mem_cons_self
    obtain ⟨y, hy⟩ := hk q (List.mem_cons_of_mem _ hq)
    refine h1 q hq ?_
    have e' : strOf a.1 = strOf q.1 := e
    rw [hx, hy] at e' ⊢
    exact congrArg _ e'

theorem mem_strKeys {es : List (Lit × DataW Unit)} (hk : ∀ p ∈ es, ∃ x, p.1 = .string x) (y : Str) : y ∈ strKeys (.map es) ↔ Maps.has (.map es) (.string y) = true := by
  rw [has_eq, List.any_eq_true]
  show y ∈ es.map (fun p => strOf p.1) ↔ _
  rw [List.mem_map]
  constructor
  · rintro ⟨p, hp', rfl⟩
    obtain ⟨a, ha⟩ := hk p hp'
    exact ⟨p, hp', by rw [ha]; simp [Lit.sameKey, strOf]⟩
  · rintro ⟨p, hp', hs⟩
    obtain ⟨a, ha⟩ := hk p hp'
    rw [ha] at hs
    exact ⟨p, hp', by rw [ha]; simpa [Lit.sameKey, strOf] using hs⟩

/-- The map's keys, sorted, are strictly ascending, and are the map's keys. -/
theorem keys_sorted {w : World} {M n : Nat} {D : DataW Unit} {ss : List (List UInt8)} (hown : w.ownsMap Try.prog 9 rdMap M n D) (hp : ss.Perm (strKeys D)) :
    Asc (ss.mergeSort (fun x y => decide (x ≤ y))) ∧ (∀ y : Str, y ∈ ss.mergeSort (fun x y => decide (x ≤ y)) ↔ Maps.has D (.string y) = true) ∧ (∀ x ∈ ss.mergeSort (fun x y => decide (x ≤ y)), x.length ≤ maxLen) ∧ (ss.mergeSort (fun x y => decide (x ≤ y))).length = ss.length ∧ ss.length ≤ n := by
  have hlen := strKeys_le hown Try.underlying9
  have hsz := hown.size_le
  obtain ⟨es, hD, hpw, _⟩ := hown.entries law
  obtain ⟨es', hD', hko⟩ := hown.keysOf
  obtain rfl : es = es' := by rw [hD] at hD'; simpa using hD'
  subst hD
  have hk : ∀ p ∈ es, ∃ x, p.1 = .string x := fun p hp => by obtain ⟨v, hv⟩ := hko p hp; obtain ⟨x, _, hx, _⟩ := Maps.keyOf_str Try.underlying9 hv; exact ⟨x, hx⟩
  have hm := List.mergeSort_perm ss (fun x y => decide (x ≤ y))
  refine ⟨asc_sorted ss (hp.nodup_iff.2 (nodup_map hk hpw)), fun y => ?_, fun x hx => hlen x (hp.mem_iff.1 (hm.mem_iff.1 hx)), hm.length_eq, ?_⟩
  · rw [hm.mem_iff, hp.mem_iff]; exact mem_strKeys hk y
  · rw [hp.length_eq]
    simpa [strKeys, Maps.size] using hsz

theorem owns_base {w : World} {base base' e size n : Nat} {v : Value} {xs : List Value} (h : w.ownsRow base e size v n xs) (hb : base' ≤ base) : w.ownsRow base' e size v n xs := by
  refine ⟨h.1, ?_⟩
  rcases h.2 with h2 | ⟨g, cap, cur, hv, hg, r⟩
  · exact .inl h2
  · exact .inr ⟨g, cap, cur, hv, Nat.le_trans hb hg, r⟩

theorem owns_shape {w : World} {base n : Nat} {v : Value} {xs : List Value} (h : w.ownsRow base 9 1 v n xs) : ∃ a cap, v = .slice a n cap := by
  rcases h.2 with ⟨rfl, rfl⟩ | ⟨g, cap, cur, rfl, _⟩
  · exact ⟨none, 0, rfl⟩
  · exact ⟨_, cap, rfl⟩

theorem sorted_keys (R M n : Nat) (D : DataW Unit) (v0 : Value) (w : World) (hown : w.ownsMap Try.prog 9 rdMap M n D) (hmax : Maps.size D ≤ maxLen) (hbytes : Maps.size D * 16 ≤ 140737488355328)
    (hR : R < w.heap.size) (c0 : w.cell? ⟨R, 0, none⟩ = some (.map (some M))) (c1 : w.cell? ⟨R, 1, none⟩ = some v0) (f1 : w.frozen? ⟨R, 1, none⟩ = false) :
    CallsIn Fence.wide 5 Try.prog 18 #[.func (.func 22) #[] #[.pointer (some ⟨w.heap.size, 0, none⟩)]] (w.alloc (.cells #[.map (some M)] 37)) fun e w' => ∃ (a : Option Addr) (cap : Nat) (ss : List (List UInt8)), e = .returned (.slice a ss.length cap) ∧
      w'.cell? ⟨R, 0, none⟩ = some (.map (some M)) ∧ w'.cell? ⟨R, 1, none⟩ = some v0 ∧ w'.frozen? ⟨R, 1, none⟩ = false ∧
      Hid (ss.Perm (strKeys D) ∧ w'.ownsRow (w.heap.size + 1) 9 1 (.slice a ss.length cap) ss.length ((ss.mergeSort (fun x y => decide (x ≤ y))).map encStr) ∧ Below w.heap.size w w') := by
  refine (Try.slices_Sorted_keys_18_19 M n D rdMap w hown hmax hbytes).mono ?_
  rintro e w' ⟨v, ss, rfl, hS, hrow, hnil, hb⟩
  obtain ⟨a, cap, rfl⟩ := owns_shape hrow
  have e1 : (w.alloc (.cells #[.map (some M)] 37)).heap.size = w.heap.size + 1 := by simp
  rw [e1] at hrow hb
  refine ⟨a, cap, ss, rfl, ?_, ?_, ?_, hide ⟨hS, hrow, ((Below.refl _ _).alloc (Nat.le_refl _) _).trans (hb.mono (Nat.le_succ _))⟩⟩
  · rw [hb.cell (p := ⟨R, 0, none⟩) (by show R < _; omega), World.cell?_alloc_past _ _ _ hR]; exact c0
  · rw [hb.cell (p := ⟨R, 1, none⟩) (by show R < _; omega), World.cell?_alloc_past _ _ _ hR]; exact c1
  · rw [hb.frozen (p := ⟨R, 1, none⟩) (by show R < _; omega), World.frozen?_of_block (w := w) (Below.heap_alloc w _ R hR)]; exact f1

set_option maxHeartbeats 1000000 in
theorem sortLabels_any (B R M n : Nat) (D : DataW Unit) (v0 : Value) (w : World) (h : MR w B R M n D v0) (hn : n ≤ 8192) :
    Calls Try.prog 17 #[.pointer (some ⟨R, 0, none⟩)] w fun e w' => e = .returned (.tuple #[]) ∧ ∃ (v : Value) (ss : List (List UInt8)), ss.Perm (strKeys D) ∧
      w'.ownsRow w.heap.size 9 1 v ss.length ((ss.mergeSort (fun x y => decide (x ≤ y))).map encStr) ∧ MR w' B R M n D v ∧ Kept R M w w' := by
  have HMR := hide h
  obtain ⟨c0, c1, f1, hBR, hR, hBM, hRM, hown, hon⟩ := h
  have hsz := hown.size_le
  have hmax : Maps.size D ≤ maxLen := by unfold maxLen; omega
  have hbytes : Maps.size D * 16 ≤ 140737488355328 := by omega
  have hMl := hown.lt
  refine (callsIn_wide (n := 6)).1 ?_
  have hfK : Fence.wide.fn 19 := trivial
  have hfS : Fence.wide.fn 18 := trivial
  refine callsIn_of_wp Try.func17 rfl trivial ?_ rfl
  simp only [Try.ntmps17, List.size_toArray, List.length_cons, List.length_nil, Nat.reduceAdd, Nat.reduceSub, Array.replicate_succ, Array.replicate_zero, List.push_toArray, List.append_toArray, List.nil_append, List.cons_append]
  gi_wp2_with (first
    | (gi_at_call 19; refine (Try.maps_Keys_19 _ _).mono ?_; rintro e w' ⟨rfl, rfl⟩)
    | (gi_at_call 18; refine (sorted_keys R M n D v0 w hown hmax hbytes hR c0 c1 f1).mono ?_; rintro e w' ⟨a, cap, ss, rfl, k0, k1, k2, hS⟩))
  obtain ⟨hp, hrow, hb⟩ := unhide hS
  go_end0
  have hM' : w'.ownsMap Try.prog 9 rdMap M n D := by
    obtain ⟨es, clock, hm, r⟩ := hown
    exact ⟨es, clock, (hb.block M hMl).trans hm, r⟩
  refine ⟨rfl, .slice a ss.length cap, ss, hp, owns_base (ownsRow_setCell_below hrow (by show R < _; omega) _) (Nat.le_succ _), ?_, ?_⟩
  · refine ⟨?_, World.cell?_setCell_same' _ _ _ (by rw [k1]; rfl), ?_, hBR, ?_, hBM, hRM, hM'.setCell (Ne.symm hRM) _, hon⟩
    · exact (World.cell?_setCell_other w' ⟨R, 1, none⟩ ⟨R, 0, none⟩ _ (by simp)).trans k0
    · rw [World.frozen?_of_block (w := w'.setCell ⟨R, 1, none⟩ (.slice a ss.length cap)) rfl]
      exact (World.frozen?_setCell _ _ _ _).trans k2
    · have := hb.size
      simp [World.setCell]
      omega
  · exact (Kept.of_below hb).trans ⟨rfl, rfl, rfl, by simp [World.setCell], fun k _ h1 _ => Below.heap_setCell _ _ _ _ h1⟩

set_option maxHeartbeats 1000000 in
/-- ZZsortLabels: the labels are the map's keys, strictly ascending, in new memory. -/
theorem zzsort_any (B R M n : Nat) (D : DataW Unit) (v0 : Value) (w : World) (h : MR w B R M n D v0) (hn : n ≤ 8192) :
    Calls Try.prog 10 #[.pointer (some ⟨R, 0, none⟩)] w fun e w' => e = .returned (.tuple #[]) ∧ ∃ (a : Option Addr) (cap : Nat) (l : List Str), Asc l ∧ (∀ y : Str, y ∈ l ↔ Maps.has D (.string y) = true) ∧ l.length ≤ n ∧
      SK w' R M a l.length l ∧ MR w' B R M n D (.slice a l.length cap) ∧ Kept R M w w' := by
  have HMR := hide h
  clear h
  go_enter Try.func10, Try.ntmps10
  go_wp2_with fail
  refine (sortLabels_any B R M n D v0 w (unhide HMR) hn).mono ?_
  rintro e w1 ⟨rfl, v, ss, hp, hrow, hmr, hk⟩
  have fin : Hid (∃ (a : Option Addr) (cap : Nat) (l : List Str), Asc l ∧ (∀ y : Str, y ∈ l ↔ Maps.has D (.string y) = true) ∧ l.length ≤ n ∧
      SK w1 R M a l.length l ∧ MR w1 B R M n D (.slice a l.length cap) ∧ Kept R M w w1) := by
    obtain ⟨c0, c1, f1, hBR, hR, hBM, hRM, hown, hon⟩ := unhide HMR
    obtain ⟨h1, h2, h3, h4, h5⟩ := keys_sorted hown hp
    have hMl := hown.lt
    rw [← h4] at hrow
    obtain ⟨a, cap, rfl⟩ := owns_shape hrow
    refine ⟨a, cap, _, h1, h2, by rw [h4]; exact h5, ?_, hmr, hk⟩
    refine ⟨rfl, h3, fun e => ?_, fun h0 => ?_⟩
    · subst e
      rcases hrow.2 with ⟨_, h⟩ | ⟨g, cap, cur, hv, _⟩
      · exact h
      · simp at hv
    · rcases hrow.2 with ⟨_, h⟩ | ⟨g, cap', cur, hv, hg, hh, _⟩
      · omega
      · simp at hv
        obtain ⟨rfl, rfl⟩ := hv
        refine ⟨g, 0, rfl, (Array.getElem?_eq_some_iff.1 hh).1, by omega, by omega, fun i hi => ?_⟩
        have := hrow.cellAt i (by omega)
        rw [Nat.zero_add, this]
        simp [List.getD, List.getElem?_eq_getElem hi]
  clear hp hrow hmr hk HMR
  go_wp2
  go_end0
  exact ⟨rfl, unhide fin⟩

theorem zzlabels_any (R : Nat) (v : Value) (a : Option Addr) (n cap : Nat) (w : World) (hv : v = .slice a n cap) (h : w.cell? ⟨R, 1, none⟩ = some v) :
    Calls Try.prog 12 #[.pointer (some ⟨R, 0, none⟩)] w fun e w' => e = .returned v ∧ w' = w := by
  subst hv
  go_enter Try.func12, Try.ntmps12
  go_wp2
  go_ret
  exact ⟨rfl, rfl⟩
end Go.Proofs.Qxb6603516a
