import Derived.Test.Qxb6603516aLaw1
import Derived.Test.Qxb6603516aZz2
namespace Go.Proofs.Qxb6603516a
open Go.RowKit Go.Maps

/-- The rules after the labels of one batch and k of the next; what was handed out before still reads so. -/
theorem ss_drewN {w : World} {B : Nat} {a : Option Addr} {n : Nat} {xs : List Str} (h : SS w B a n xs) (q : Nat) : SS (w.drewN q) B a n xs := h.carry (below_drewN (Below.refl _ _) q)

theorem map_snoc (xs : List Str) (k : Nat) (h : k < xs.length) : (xs.take k).map encStr ++ [.string ⟨(xs.getD k []).toArray⟩] = (xs.take (k + 1)).map encStr := by
  rw [← take_snoc xs k h, List.map_append]
  rfl

theorem map_snoc2 (zs xs : List Str) (k : Nat) (h : k < xs.length) : (zs ++ xs.take k).map encStr ++ [.string ⟨(xs.getD k []).toArray⟩] = (zs ++ xs.take (k + 1)).map encStr := by
  rw [← take_snoc xs k h, ← List.append_assoc, List.map_append (l₁ := zs ++ xs.take k)]
  rfl

theorem Filled.kept {w wr : World} {B R M n : Nat} {v : Value} {L : List Str} (h : Filled w wr B R M n v L) : Kept R M w wr := by
  obtain ⟨_, _, _, hk⟩ := h
  exact hk

theorem Filled.rebase {w wr : World} {B R M n : Nat} {v : Value} {L : List Str} (h : Filled w wr B R M n v L) : Filled wr wr B R M n v L := by
  obtain ⟨D, h1, h2, _⟩ := h
  exact ⟨D, h1, h2, Kept.refl _ _ _⟩
theorem Filled.on {w wr w' : World} {B R M n : Nat} {v : Value} {L : List Str} (h : Filled wr w' B R M n v L) (k : Kept R M w wr) : Filled w w' B R M n v L := by
  obtain ⟨D, h1, h2, h3⟩ := h
  exact ⟨D, h1, h2, k.trans h3⟩

set_option maxRecDepth 100000 in
set_option maxHeartbeats 8000000 in
theorem law2 (a b : Option Addr) (n m ca cb : Nat) (xs ys : List Str) (w : World) (ha : SS w w.heap.size a n xs) (hb : SS w w.heap.size b m ys) (hca : a = none → ca = 0) (hcb : b = none → cb = 0) :
    Calls Try.prog 4 #[.slice a n ca, .slice b m cb] w fun e w' => e = .returned (.bool true) ∧ Below w.heap.size w w' := by
  go_enter Try.func4, Try.ntmps4
  go_wp2_with fail
  refine (zz2_any a b n m ca cb _ _ xs ys _ ha hb).mono ?_
  rintro e w1 ⟨⟨q, rfl⟩, rfl⟩
  cases q
  · go_wp2
    go_ret
    exact ⟨rfl, Below.refl _ _⟩
  by_cases hn : (4096 : Int) < n
  · go_wp2
    go_ret
    exact ⟨rfl, Below.refl _ _⟩
  have hn' : (n : Int) ≤ 4096 := by omega
  by_cases hm : (4096 : Int) < m
  · go_wp2
    go_ret
    exact ⟨rfl, Below.refl _ _⟩
  have hm' : (m : Int) ≤ 4096 := by omega
  go_wp2_with fail
  refine (size_any a n ca _ xs _ (by omega) ha).mono ?_
  rintro e w1 ⟨⟨q1, rfl⟩, rfl⟩
  go_wp2_with fail
  refine (size_any b m cb _ ys _ (by omega) hb).mono ?_
  rintro e w1 ⟨⟨q2, rfl⟩, rfl⟩
  by_cases hq : 1048576 < wrap64 (q1 + q2)
  · go_wp2
    go_ret
    exact ⟨rfl, Below.refl _ _⟩
  go_wp2_with fail
  refine (clone_any a n ca xs _ ha hca (by omega)).mono ?_
  rintro e w1 ⟨a1, c1, rfl, s1, B1⟩
  have z1 := B1.size
  go_wp2_with fail
  refine (clone_any b m cb ys _ ((hb.carry B1).mono z1) hcb (by omega)).mono ?_
  rintro e w2 ⟨a2, c2, rfl, s2, B2⟩
  have z2 := B2.size
  go_wp2_with fail
  refine (newRules _).mono ?_
  rintro e w3 ⟨R, M, rfl, m3, B3⟩
  have z3 := B3.size
  have ka : SK w3 R M a1 n xs := ((s1.carry B2).mono z2 |>.carry B3).sk m3.2.2.2.1 m3.2.2.2.2.2.1 z3
  have kb : SK w3 R M a2 m ys := (s2.carry B3).sk m3.2.2.2.1 m3.2.2.2.2.2.1 z3
  have F3 := hide (filled_start m3)
  have HB3 : Hid (Below w.heap.size w w3) := hide (B1.trans ((B2.mono z1).trans (B3.mono (by omega))))
  have hR : Hid (w.heap.size ≤ R ∧ w.heap.size ≤ M ∧ w.heap.size ≤ w3.heap.size) := hide ⟨by have := m3.2.2.2.1; omega, by have := m3.2.2.2.2.2.1; omega, by omega⟩
  clear m3 B1 B2 B3 s1 s2 ha hb hca hcb hq
  go_wp2_with fail
  go_loopw [6] (fun i wr => ∃ k : Nat, k ≤ n ∧ i = .int .i64 k ∧ Hid (Filled w3 wr w2.heap.size R M k (.slice none 0 0) (xs.take k))) (fun i _ => n - (intOf i).toNat)
  case atStart => exact ⟨0, Nat.zero_le _, rfl, by simpa using F3⟩
  case round =>
    obtain ⟨k, hk, rfl, hF⟩ := hrel
    by_cases hlt : k < n
    · have kr := ka.carry (unhide hF).kept
      obtain ⟨bb, off, rfl, _, _, _, hc⟩ := kr.2.2.2 (by omega)
      have hxl := kr.1
      have hx : (xs.getD k []).length ≤ maxLen := kr.2.1 _ (by rw [getD_at xs k (by omega)]; exact List.getElem_mem _)
      have hcell := hc k hlt
      have HT := hide (take_snoc xs k (by omega))
      clear hc kr hxl
      generalize xs.getD k [] = x at *
      go_wp2_with fail
      refine (filled_step (unhide hF) x hx (by unfold maxLen; omega)).mono ?_
      rintro e w4 ⟨rfl, F4⟩
      rw [unhide HT] at F4
      go_wp2
      go_roundw
      case rel => exact ⟨k + 1, by omega, by go_num, F4⟩
      case measure => simp [intOf]; omega
    · obtain rfl : k = n := by omega
      go_wp2_with fail
      refine (filled_sort (unhide hF) (by omega)).mono ?_
      rintro e w4 ⟨rfl, a3, c3, l, H4⟩
      go_wp2_with fail
      refine (zzlabels_any R _ a3 _ c3 _ rfl (unhide H4).2.2.2.2.1).mono ?_
      rintro e w4' ⟨rfl, hw⟩
      obtain rfl : w4 = w4' := hw.symm
      obtain ⟨l1, l2, l3, l4, l5, l6, l7⟩ := unhide H4
      have hxl := ka.1
      have eT : xs.take k = xs := by rw [← hxl, List.take_length]
      rw [eT] at l2 l6
      have L := hide (And.intro l1 l2)
      have F4 := hide l6.rebase
      have K34 := hide l6.kept
      have ka4 := ka.carry l6.kept
      have kb4 := kb.carry l6.kept
      clear hw H4 l1 l2 l5 l6 l7 hF F3 eT
      go_wp2_with fail
      go_loopw [8] (fun i wr => ∃ j : Nat, j ≤ m ∧ i = .int .i64 j ∧ Hid (Filled w4 wr w2.heap.size R M (k + j) (.slice a3 l.length c3) (xs ++ ys.take j))) (fun i _ => m - (intOf i).toNat)
      case atStart => exact ⟨0, Nat.zero_le _, rfl, by simpa using F4⟩
      case round =>
        obtain ⟨j, hj, rfl, hF⟩ := hrel
        by_cases hlt2 : j < m
        · have kr := kb4.carry (unhide hF).kept
          obtain ⟨bb, off, rfl, _, _, _, hc⟩ := kr.2.2.2 (by omega)
          have hyl := kr.1
          have hx : (ys.getD j []).length ≤ maxLen := kr.2.1 _ (by rw [getD_at ys j (by omega)]; exact List.getElem_mem _)
          have hcell := hc j hlt2
          have HT := hide (take_snoc ys j (by omega))
          clear hc kr hyl
          generalize ys.getD j [] = x at *
          go_wp2_with fail
          refine (filled_step (unhide hF) x hx (by unfold maxLen; omega)).mono ?_
          rintro e w5 ⟨rfl, F5⟩
          rw [List.append_assoc, unhide HT] at F5
          go_wp2
          go_roundw
          case rel => exact ⟨j + 1, by omega, by go_num, F5⟩
          case measure => simp [intOf]; omega
        · obtain rfl : j = m := by omega
          go_wp2_with fail
          refine (filled_sort (unhide hF) (by omega)).mono ?_
          rintro e w5 ⟨rfl, a5, c5, r, H5⟩
          go_wp2_with fail
          refine (zzlabels_any R _ a5 _ c5 _ rfl (unhide H5).2.2.2.2.1).mono ?_
          rintro e w5' ⟨rfl, hw⟩
          obtain rfl : w5 = w5' := hw.symm
          obtain ⟨r1, r2, r3, r4, r5, r6, r7⟩ := unhide H5
          have hyl := kb.1
          have eT : ys.take j = ys := by rw [← hyl, List.take_length]
          rw [eT] at r2
          have RR := hide (And.intro r1 r2)
          have K45 := r6.kept
          have fa : SS w5 w5.heap.size a1 k xs := (ka4.carry K45).ss
          have fb : SS w5 w5.heap.size a2 j ys := (kb4.carry K45).ss
          have f1 : SS w5 w5.heap.size a3 l.length l := (l4.carry K45).ss
          have f2 : SS w5 w5.heap.size a5 r.length r := r4.ss
          have HB5 : Hid (Below w.heap.size w w5) := by
            have hr := unhide hR
            have hk5 := (unhide K34).trans K45
            exact hide ((unhide HB3).trans (hk5.below hr.1 hr.2.1 hr.2.2))
          have hmk := make_own (k + j) (by omega)
          rw [Int.natCast_add] at hmk
          obtain ⟨i0, hi, hz0, hz1, hz2⟩ := info_parts info9
          clear hw H5 r1 r2 r4 r5 r6 r7 K45 hF F4 eT ka ka4 kb kb4 l4 K34 HB3
          go_wp2_with fail
          have OM : Hid ((w5.alloc (.cells (madeCells #[.string ⟨#[]⟩] (k + j)) 9)).ownsRow w5.heap.size 9 1 (.slice (some ⟨w5.heap.size, 0, none⟩) 0 (k + j)) 0 []) := hide (World.ownsRow_made w5 _ (k + j) (Nat.le_refl _) (by unfold maxLen; omega) (by simp [madeCells]))
          go_loopw [10, 11] (fun u i wr => ∃ g : Nat, g ≤ k ∧ i = .int .i64 g ∧ Hid (wr.ownsRow w5.heap.size 9 1 u g ((xs.take g).map encStr)) ∧ Below w5.heap.size w5 wr) (fun _ i _ => k - (intOf i).toNat)
          case atStart => exact ⟨0, Nat.zero_le _, rfl, OM, (Below.refl _ _).alloc (Nat.le_refl _) _⟩
          case round =>
            obtain ⟨g, hg, rfl, hO, hbel⟩ := hrel
            have hsz := hbel.size
            by_cases hlt3 : g < k
            · have kr := fa.carry hbel
              obtain ⟨bb, off, rfl, _, hc⟩ := kr.2.2.2 (by omega)
              have hcell := hc g hlt3
              have HT := hide (map_snoc xs g (by have := kr.1; omega))
              have hO' := unhide hO
              clear hc kr
              generalize xs.getD g [] = x at *
              generalize (xs.take g).map encStr = cur at *
              go_wp2_with (first
                | (at_builtin; refine wpList_append_own _ rfl _ _ 22 rfl w5.heap.size 9 i0 (.string ⟨#[]⟩) 1 16 Try.underlying22 hi hz0 hz1 hz2 rfl (by decide) _ _ _ rfl (hO'.alloc _) ⟨wr.heap.size, 0, none⟩ 1 1 [.string ⟨x.toArray⟩] rfl rfl ?c1 ?c2 ?c3 ?c4 ?c5 ?_))
              case c1 =>
                intro j u hj
                match j, hj with
                | 0, hj => simp at hj; subst hj; simp [Addr.add]
              case c2 => intro u hu; simp at hu; subst hu; rfl
              case c3 => unfold maxLen; omega
              case c4 => omega
              case c5 => simp; omega
              intro v' w6 hown' hgrow _
              have HB6 : Hid (Below w5.heap.size w5 w6) := hide (hbel.trans (((Below.refl _ _).alloc (by omega) _).grown hgrow (by simp; omega) (fun q hq => (hO'.lt q hq).1)))
              have HO6 := hide hown'
              clear hown' hgrow hO' hO
              go_wp2
              go_roundw
              case rel => exact ⟨g + 1, by omega, by go_num, by rw [← unhide HT]; exact HO6, unhide HB6⟩
              case measure => simp [intOf]; omega
            · obtain rfl : g = k := by omega
              have eT : xs.take g = xs := by rw [← fa.1, List.take_length]
              rw [eT] at hO
              clear eT OM
              go_wp2_with fail
              go_loopw [10, 12] (fun u i wr' => ∃ q : Nat, q ≤ j ∧ i = .int .i64 q ∧ Hid (wr'.ownsRow w5.heap.size 9 1 u (g + q) ((xs ++ ys.take q).map encStr)) ∧ Below w5.heap.size w5 wr') (fun _ i _ => j - (intOf i).toNat)
              case atStart => exact ⟨0, Nat.zero_le _, rfl, by simpa using hO, hbel⟩
              case round =>
                obtain ⟨q, hq, rfl, hP, hbel2⟩ := hrel
                have hsz2 := hbel2.size
                by_cases hlt4 : q < j
                · have kr := fb.carry hbel2
                  obtain ⟨bb, off, rfl, _, hc⟩ := kr.2.2.2 (by omega)
                  have hcell := hc q hlt4
                  have HT := hide (map_snoc2 xs ys q (by have := kr.1; omega))
                  have hP' := unhide hP
                  clear hc kr
                  generalize ys.getD q [] = x at *
                  generalize (xs ++ ys.take q).map encStr = cur at *
                  go_wp2_with (first
                    | (at_builtin; refine wpList_append_own _ rfl _ _ 22 rfl w5.heap.size 9 i0 (.string ⟨#[]⟩) 1 16 Try.underlying22 hi hz0 hz1 hz2 rfl (by decide) _ _ _ rfl (hP'.alloc _) ⟨wr.heap.size, 0, none⟩ 1 1 [.string ⟨x.toArray⟩] rfl rfl ?e1 ?e2 ?e3 ?e4 ?e5 ?_))
                  case e1 =>
                    intro j u hj
                    match j, hj with
                    | 0, hj => simp at hj; subst hj; simp [Addr.add]
                  case e2 => intro u hu; simp at hu; subst hu; rfl
                  case e3 => unfold maxLen; omega
                  case e4 => omega
                  case e5 => simp; omega
                  intro v' w6 hown' hgrow _
                  have HB6 : Hid (Below w5.heap.size w5 w6) := hide (hbel2.trans (((Below.refl _ _).alloc (by omega) _).grown hgrow (by simp; omega) (fun q hq => (hP'.lt q hq).1)))
                  have HO6 := hide hown'
                  clear hown' hgrow hP' hP
                  go_wp2
                  go_roundw
                  case rel => exact ⟨q + 1, by omega, by go_num, by rw [← unhide HT]; exact HO6, unhide HB6⟩
                  case measure => simp [intOf]; omega
                · obtain rfl : q = j := by omega
                  have eT : ys.take q = ys := by rw [← fb.1, List.take_length]
                  have hP' := unhide hP
                  rw [eT] at hP'
                  obtain ⟨a6, c6, hu6, s6⟩ := SS_owns (by have := fa.1; have := fb.1; simp; omega) (fun x hx => by rcases List.mem_append.1 hx with h | h; exact fa.2.1 x h; exact fb.2.1 x h) hP'
                  subst hu6
                  have fa6 := fa.carry hbel2
                  have f16 := f1.carry hbel2
                  have f26 := f2.carry hbel2
                  have HB6 : Hid (Below w.heap.size w wr) := hide ((unhide HB5).trans (hbel2.mono (by have := (unhide HB5).size; omega)))
                  clear hP hP' eT hO hbel hbel2 HB5 f1 f2 fa fb
                  go_wp2_with fail
                  refine (sd_any a1 g c1 _ xs _ (by omega) hsz2 fa6).mono ?_
                  rintro e w7 ⟨o, a7, c7, rfl, H7⟩
                  obtain ⟨p1, p2, p3, p4, p5⟩ := unhide H7
                  have elo : o = l := asc_ext p1 (unhide L).1 (fun y => by rw [p2, (unhide L).2])
                  subst elo
                  have f17 := f16.carry (p5.mono hsz2)
                  have f27 := f26.carry (p5.mono hsz2)
                  have s7 := s6.carry p5
                  have z7 := p5.size
                  have HB7 : Hid (Below w.heap.size w w7) := hide ((unhide HB6).trans (p5.mono (by have := (unhide HB6).size; omega)))
                  clear p1 p2 p5 H7 fa6 f16 f26 s6 HB6
                  go_wp2_with fail
                  refine (equal_any a3 a7 c3 c7 o.length _ _ o _ (by omega) f17 p4).mono ?_
                  rintro e w8 ⟨rfl, q8, rfl⟩
                  have f28 := ss_drewN f27 q8
                  have s8 := ss_drewN s7 q8
                  clear f17 p4 f27 s7
                  go_wp2_with fail
                  refine (sd_any a6 (g + q) c6 wr.heap.size (xs ++ ys) (w7.drewN q8) (by omega) (by exact z7) s8).mono ?_
                  rintro e w9 ⟨o9, a9, c9, rfl, H9⟩
                  obtain ⟨t1, t2, t3, t4, t5⟩ := unhide H9
                  have elr : o9 = r := asc_ext t1 (unhide RR).1 (fun y => by rw [t2, (unhide RR).2])
                  subst elr
                  have f29 := f28.carry (t5.mono (show w5.heap.size ≤ w7.heap.size by omega))
                  have HB9 : Hid (Below w.heap.size w w9) := hide ((below_drewN (unhide HB7) q8).trans (t5.mono (by have := (unhide HB7).size; exact this)))
                  clear t1 t2 t5 H9 f28 s8 HB7
                  go_wp2_with fail
                  refine (equal_any a5 a9 c5 c9 o9.length _ _ o9 _ (by omega) f29 t4).mono ?_
                  rintro e w10 ⟨rfl, q10, rfl⟩
                  go_wp2
                  go_ret
                  exact ⟨rfl, below_drewN (unhide HB9) _⟩
end Go.Proofs.Qxb6603516a
