import Derived.Test.Qxb6603516aMem
import Derived.Test.Qxb6603516aPlain
import Derived.Laws.CopyOwn
import Derived.Deep.RegionLaw
namespace Go.Proofs.Qxb6603516a
open Go.RowKit

theorem make_own (n : Nat) (hn : n ≤ 8192) (w : World) : (Instr.makeSlice 22 (.int .i64 0) (.int .i64 (n : Int))).run Try.prog w = .ok (.slice (some ⟨w.heap.size, 0, none⟩) 0 n) (w.alloc (.cells (madeCells #[.string ⟨#[]⟩] n) 9)) := by
  obtain ⟨i0, hi, hz0, hz1, hz2⟩ := info_parts info9
  have hr := run_make (P := Try.prog) w 22 9 i0 (.string ⟨#[]⟩) Try.underlying22 hi hz0 .i64 .i64 0 (n : Int) (by omega) (by omega) (by rw [hz2]; omega) (by omega)
  rw [hz1, show (Value.string ⟨#[]⟩).cells = #[.string ⟨#[]⟩] from rfl] at hr
  simpa using hr

/-- The row in block g holds o, and has room for n strings. -/
abbrev Row (w : World) (g n : Nat) (o : List Str) : Prop := w.ownsRow g 9 1 (.slice (some ⟨g, 0, none⟩) o.length n) o.length (o.map encStr)

theorem row_cell {w : World} {g n : Nat} {o : List Str} (h : Row w g n o) (j : Nat) (hj : j < o.length) : w.cell? ⟨g, j, none⟩ = some (.string ⟨(o.getD j []).toArray⟩) := by
  rw [h.cellAt j (by omega)]
  simp [List.getD, List.getElem?_eq_getElem hj]

/-- A row laid open. -/
theorem row_open {w : World} {g n m : Nat} {xs : List Value} (h : w.ownsRow g 9 1 (.slice (some ⟨g, 0, none⟩) m n) m xs) : ∃ L : List Value, w.heap[g]? = some (.cells L.toArray 9 (0, 0)) ∧ L.length = n ∧ L.take m = xs := by
  rcases h.2 with ⟨h1, _⟩ | ⟨g', cap, cur, hv, _, hh, _, _, hs, ht⟩
  · simp at h1
  · simp at hv
    obtain ⟨rfl, rfl⟩ := hv
    exact ⟨cur.toList, by simpa using hh, by simpa using hs, by simpa using ht⟩

theorem size9 : (Try.prog.info? 9).map (·.size) = some 1 := by kernel_rfl

theorem list_laid {α β : Type} (f : α → β) (o : List α) (L : List β) (e v : β) (p : Nat) (hp : p ≤ o.length) (hLt : L.take (o.length + 1) = o.map f ++ [e]) :
    ((splice L (p + 1) ((o.drop p).map f)).set p v).take (o.length + 1) = (o.take p).map f ++ v :: (o.drop p).map f := by
  have h1 : L.take (p + 1) = (o.map f ++ [e]).take (p + 1) := by rw [← hLt, List.take_take, Nat.min_eq_left (by omega)]
  have h3 : p < (o.map f ++ [e]).length := by simp; omega
  have h2 : ∃ y, L.take (p + 1) = (o.take p).map f ++ [y] := by
    rw [h1, List.take_succ_eq_append_getElem h3, List.take_append_of_le_length (by simp; omega), ← List.map_take]
    exact ⟨_, rfl⟩
  obtain ⟨y, hy⟩ := h2
  have hlen : ((o.take p).map f).length = p := by simp; omega
  unfold splice
  rw [hy]
  generalize (o.take p).map f = A at *
  have hB : ((o.drop p).map f).length = o.length - p := by simp
  generalize (o.drop p).map f = B at *
  generalize L.drop (p + 1 + B.length) = C
  have e1 : (A ++ [y] ++ (B ++ C)).set p v = A ++ v :: (B ++ C) := by
    rw [List.append_assoc, List.set_append_right _ _ (by omega), hlen, Nat.sub_self]
    rfl
  have e2 : A ++ v :: (B ++ C) = (A ++ v :: B) ++ C := by simp
  rw [e1, e2]
  exact List.take_left' (by simp; omega)

theorem row_laid {w4 : World} {g n p : Nat} {o : List Str} {x : Str} {L CS : List Value} (hL : L.length = n) (hLt : L.take (o.length + 1) = o.map encStr ++ [.string ⟨#[]⟩]) (hp : p ≤ o.length) (hn : o.length + 1 ≤ n) (hm : n ≤ maxLen) (hCS : CS = (o.drop p).map encStr)
    (hg : w4.heap[g]? = some (.cells (splice L (p + 1) CS).toArray 9 (0, 0))) : Row (w4.setCell ⟨g, p, none⟩ (.string ⟨x.toArray⟩)) g n (o.take p ++ x :: o.drop p) := by
  subst hCS
  have hlen : (o.take p ++ x :: o.drop p).length = o.length + 1 := by simp; omega
  have hsl : (splice L (p + 1) ((o.drop p).map encStr)).length = n := by rw [length_splice _ _ _ (by simp; omega)]; exact hL
  refine ⟨by simp, .inr ⟨g, n, ((splice L (p + 1) ((o.drop p).map encStr)).set p (.string ⟨x.toArray⟩)).toArray, rfl, Nat.le_refl _, ?_, by omega, hm, by rw [List.size_toArray, List.length_set, hsl, Nat.mul_one], ?_⟩⟩
  · simp [World.setCell, Array.getElem?_modify, hg]
  · rw [hlen, Nat.mul_one]
    have := list_laid encStr o L (.string ⟨#[]⟩) (.string ⟨x.toArray⟩) p hp hLt
    simpa using this

theorem src_cells {w1 : World} {g n p : Nat} {o : List Str} {L : List Value} (hh : w1.heap[g]? = some (.cells L.toArray 9 (0, 0))) (hLt : L.take (o.length + 1) = o.map encStr ++ [.string ⟨#[]⟩]) (_hn : L.length = n) :
    ∀ j v, ((o.drop p).map encStr)[j]? = some v → w1.cell? ((⟨g, p, none⟩ : Addr).add j) = some v := by
  intro j v hj
  rw [WideShapes.add_plain]
  have hjl : p + j < o.length := by
    have := (List.getElem?_eq_some_iff.1 hj).1
    simp at this; omega
  have h1 : L[p + j]? = (L.take (o.length + 1))[p + j]? := by rw [List.getElem?_take, if_pos (by omega)]
  have h2 : L[p + j]? = some v := by
    rw [h1, hLt, List.getElem?_append_left (by simp; omega)]
    simpa using hj
  simp [World.cell?, hh, h2]

theorem row_has {w : World} {g p : Nat} {L : List Value} (h : w.heap[g]? = some (.cells L.toArray 9 (0, 0))) (hp : p < L.length) : ∃ v, w.cell? ⟨g, p, none⟩ = some v :=
  ⟨L[p], by simp [World.cell?, h, hp]⟩
theorem row_free {w : World} {g : Nat} {L : List Value} (h : w.heap[g]? = some (.cells L.toArray 9 (0, 0))) (p : Nat) : w.frozen? ⟨g, p, none⟩ = false := by
  simp [World.frozen?, h]
end Go.Proofs.Qxb6603516a
