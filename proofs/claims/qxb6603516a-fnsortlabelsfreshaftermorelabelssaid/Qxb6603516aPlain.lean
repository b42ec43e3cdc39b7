import Derived.Sort.EncStr
import Derived.Sort.Walk0
namespace Go.Proofs.Qxb6603516a

abbrev Str' := List UInt8

theorem slt_irrefl (a : Str') : ¬ a < a := List.lt_irrefl a
theorem slt_trans {a b c : Str'} (h : a < b) (k : b < c) : a < c := List.lt_trans h k
theorem slt_tri (a b : Str') (h : ¬ a < b) (k : a ≠ b) : b < a := by
  have h1 : b ≤ a := List.not_lt.mp h
  exact Std.lt_of_le_of_ne h1 (Ne.symm k)
theorem slt_of_le_ne {a b : Str'} (h : a ≤ b) (k : a ≠ b) : a < b := Std.lt_of_le_of_ne h k

/-- Strictly ascending. -/
def Asc (l : List Str') : Prop := l.Pairwise (· < ·)

theorem asc_ext : ∀ {l m : List Str'}, Asc l → Asc m → (∀ y, y ∈ l ↔ y ∈ m) → l = m
  | [], [], _, _, _ => rfl
  | [], b :: m, _, _, h => by have := (h b).2 (by simp); simp at this
  | a :: l, [], _, _, h => by have := (h a).1 (by simp); simp at this
  | a :: l, b :: m, ha, hb, h => by
    have ha' := List.pairwise_cons.1 ha
    have hb' := List.pairwise_cons.1 hb
    have e : a = b := by
      rcases List.mem_cons.1 ((h a).1 (by simp)) with e | e
      · exact e
      · rcases List.mem_cons.1 ((h b).2 (by simp)) with e' | e'
        · exact e'.symm
        · exact absurd (slt_trans (hb'.1 a e) (ha'.1 b e')) (slt_irrefl _)
    subst e
    congr 1
    refine asc_ext ha'.2 hb'.2 fun y => ⟨fun hy => ?_, fun hy => ?_⟩
    · rcases List.mem_cons.1 ((h y).1 (by simp [hy])) with e | e
      · subst e; exact absurd (ha'.1 y hy) (slt_irrefl _)
      · exact e
    · rcases List.mem_cons.1 ((h y).2 (by simp [hy])) with e | e
      · subst e; exact absurd (hb'.1 y hy) (slt_irrefl _)
      · exact e

theorem pw_turn {α : Type} {R S : α → α → Prop} (h : ∀ a b, R a b → S a b) : ∀ {l : List α}, l.Pairwise R → l.Pairwise S
  | [], _ => List.Pairwise.nil
  | _ :: _, k => List.pairwise_cons.2 ⟨fun b hb => h _ _ ((List.pairwise_cons.1 k).1 b hb), pw_turn h (List.pairwise_cons.1 k).2⟩

/-- A list without a string twice, sorted, is strictly ascending. -/
theorem asc_sorted (l : List Str') (h : l.Nodup) : Asc (l.mergeSort (fun x y => decide (x ≤ y))) := by
  have h1 : (l.mergeSort (fun x y => decide (x ≤ y))).Pairwise (fun x y => decide (x ≤ y) = true) :=
    List.pairwise_mergeSort (fun a b c h k => by simp at h k ⊢; exact List.le_trans h k) (fun a b => by simp; exact List.le_total a b) l
  have h2 : (l.mergeSort (fun x y => decide (x ≤ y))).Nodup := (List.mergeSort_perm l _).nodup_iff.2 h
  exact pw_turn (fun a b h => slt_of_le_ne (by simpa using h.1) h.2) (h1.and h2)

/-- THE PLACE: all ahead of p lie below x, none from p on does. -/
def Place (o : List Str') (x : Str') (p q : Nat) : Prop := (∀ j, j < p → o.getD j [] < x) ∧ ∀ j, q ≤ j → j < o.length → ¬ o.getD j [] < x

theorem getD_at (o : List Str') (j : Nat) (h : j < o.length) : o.getD j [] = o[j] := by simp [List.getD, List.getElem?_eq_getElem h]

theorem asc_lt {o : List Str'} (h : Asc o) {i j : Nat} (hij : i < j) (hj : j < o.length) : o.getD i [] < o.getD j [] := by
  rw [getD_at o i (by omega), getD_at o j hj]
  exact List.pairwise_iff_getElem.1 h i j (by omega) hj hij

theorem place_start (o : List Str') (x : Str') : Place o x 0 o.length := ⟨fun j h => absurd h (Nat.not_lt_zero _), fun j h k => absurd k (by omega)⟩
theorem place_up {o : List Str'} {x : Str'} {p q m : Nat} (hA : Asc o) (h : Place o x p q) (hm : m < o.length) (hx : o.getD m [] < x) : Place o x (m + 1) q := by
  refine ⟨fun j hj => ?_, h.2⟩
  by_cases e : j = m
  · subst e; exact hx
  · exact slt_trans (asc_lt hA (show j < m by omega) hm) hx
theorem place_down {o : List Str'} {x : Str'} {p q m : Nat} (hA : Asc o) (h : Place o x p q) (hx : ¬ o.getD m [] < x) : Place o x p m := by
  refine ⟨h.1, fun j hj hl => ?_⟩
  by_cases e : j = m
  · subst e; exact hx
  · intro hjx
    exact hx (slt_trans (asc_lt hA (show m < j by omega) hl) hjx)

/-- It is there already. -/
theorem there {o : List Str'} {x : Str'} {p : Nat} (hp : p < o.length) (e : o.getD p [] = x) : x ∈ o := by
  rw [← e, getD_at o p hp]; exact List.getElem_mem hp

/-- LAID IN AT ITS PLACE. -/
theorem laid {o : List Str'} {x : Str'} {p : Nat} (hA : Asc o) (h : Place o x p p) (hp : p ≤ o.length) (hne : p < o.length → o.getD p [] ≠ x) : Asc (o.take p ++ x :: o.drop p) := by
  unfold Asc
  rw [List.pairwise_append]
  refine ⟨List.Pairwise.sublist (List.take_sublist _ _) hA, ?_, ?_⟩
  · rw [List.pairwise_cons]
    refine ⟨fun y hy => ?_, List.Pairwise.sublist (List.drop_sublist _ _) hA⟩
    obtain ⟨i, hi, rfl⟩ := List.mem_iff_getElem.1 hy
    rw [List.getElem_drop]
    rw [List.length_drop] at hi
    have h1 := h.2 p (Nat.le_refl _) (by omega)
    have h2 := slt_tri _ _ h1 (hne (by omega))
    by_cases e : i = 0
    · subst e
      rw [getD_at o p (by omega)] at h2
      exact h2
    · have h3 := asc_lt hA (show p < p + i by omega) (by omega)
      rw [getD_at o (p + i) (by omega)] at h3
      exact slt_trans h2 h3
  · intro a ha b hb
    obtain ⟨i, hi, rfl⟩ := List.mem_iff_getElem.1 ha
    rw [List.length_take] at hi
    rw [List.getElem_take]
    have h1 := h.1 i (by omega)
    rw [getD_at o i (by omega)] at h1
    rcases List.mem_cons.1 hb with e | e
    · subst e; exact h1
    · obtain ⟨j, hj, rfl⟩ := List.mem_iff_getElem.1 e
      rw [List.getElem_drop]
      rw [List.length_drop] at hj
      have h3 := asc_lt hA (show i < p + j by omega) (by omega)
      rw [getD_at o i (by omega), getD_at o (p + j) (by omega)] at h3
      exact h3

theorem mem_laid {o : List Str'} {x : Str'} {p : Nat} (y : Str') : y ∈ o.take p ++ x :: o.drop p ↔ y ∈ o ∨ y = x := by
  have e : y ∈ o ↔ y ∈ o.take p ∨ y ∈ o.drop p := by
    conv => lhs; rw [← List.take_append_drop p o]
    exact List.mem_append
  rw [e, List.mem_append, List.mem_cons]
  constructor
  · rintro (h | h | h)
    · exact .inl (.inl h)
    · exact .inr h
    · exact .inl (.inr h)
  · rintro ((h | h) | h)
    · exact .inl h
    · exact .inr (.inr h)
    · exact .inr (.inl h)

theorem mem_take_succ (xs : List Str') (k : Nat) (h : k < xs.length) (y : Str') : y ∈ xs.take (k + 1) ↔ y ∈ xs.take k ∨ y = xs.getD k [] := by
  rw [List.take_succ_eq_append_getElem h, getD_at xs k h, List.mem_append, List.mem_singleton]
end Go.Proofs.Qxb6603516a
