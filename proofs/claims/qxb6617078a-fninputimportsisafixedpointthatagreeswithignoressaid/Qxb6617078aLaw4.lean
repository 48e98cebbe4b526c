/-
  THE WALK of the law FnInputImportsIsAFixedPointThatAgreesWithIgnores (4).
-/
import Derived.Test.Qxb6617078aInput
import Derived.Test.Qxb6617078aMarkI
import Derived.Test.Qxb6617078aBytesN
namespace Go.Proofs.Qxb6617078a
open Go.RowKit

theorem info4 : (Try.prog.info? 4).map (fun i => (i.zero, i.size, i.bytes)) = some (some (.bool false), 1, 1) := by kernel_rfl

theorem marks_of_own {w : World} {base hb n : Nat} (h : w.ownsRow base 4 1 (.slice (some ⟨hb, 0, none⟩) n n) n (List.replicate n (.bool false))) : Marks w hb (fun _ => false) n := by
  rcases h.2 with ⟨hv, _⟩ | ⟨g, cap, cur, hv, _, hg, _, _, _, h4⟩
  · cases hv
  · cases hv
    intro j hj
    have h5 : cur[j]? = some (.bool false) := by
      have h6 : (cur.toList.take (n * 1))[j]? = some (.bool false) := by rw [h4]; simp [hj]
      rw [List.getElem?_take] at h6
      simpa [hj] using h6
    exact ⟨by simp [World.cell?, hg, h5], by simp [World.frozen?, hg]⟩

set_option maxRecDepth 100000 in
set_option maxHeartbeats 8000000 in
theorem law4_main (ar ag ai : Option Addr) (cr cg ci : Nat) (reqs ig imps : List ByteArray) (w : World) (hlr : reqs.length ≤ 9223372036854775807) (hlg : ig.length ≤ 9223372036854775807) (hli : imps.length ≤ 9223372036854775807)
    (rowR : Row w (.slice ar reqs.length cr) reqs) (rowG : Row w (.slice ag ig.length cg) ig) (rowI : Row w (.slice ai imps.length ci) imps)
    (hby : Calls Try.prog 15 #[.slice ar reqs.length cr, .slice ag ig.length cg, .slice ai imps.length ci] w fun e' w' => Says (Small3 reqs ig imps) e' ∧ w' = w) :
    Calls Try.prog 4 #[.slice ar reqs.length cr, .slice ag ig.length cg, .slice ai imps.length ci] w fun e w' => e = .returned (.bool true) ∧ Below w.heap.size w w' := by
  have HB := hidP hby
  have RR := hidP rowR
  have RG := hidP rowG
  have RI := hidP rowI
  clear hby rowR rowG rowI
  generalize hnr : reqs.length = nr at *
  have NR := hidP hnr
  clear hnr
  generalize hng : ig.length = ng at *
  have NG := hidP hng
  clear hng
  generalize hni : imps.length = ni at *
  have NI := hidP hni
  clear hni
  go_enter Try.func4, Try.ntmps4
  go_wp2_with fail
  refine HB.out.mono ?_
  rintro e' w0 ⟨⟨r, rfl, hr⟩, rfl⟩
  cases r with
  | false =>
    go_wp2_with fail
    go_ret
    exact ⟨rfl, Below.refl _ _⟩
  | true =>
  obtain ⟨hsr, hsg, hsi⟩ := hr rfl
  have SR := hidP hsr
  have SG := hidP hsg
  have SI := hidP hsi
  clear hr hsr hsg hsi HB
  by_cases hl1 : 4096 < nr
  · go_wp2_with fail
    go_ret
    exact ⟨rfl, Below.refl _ _⟩
  by_cases hl2 : 4096 < ng
  · go_wp2_with fail
    go_ret
    exact ⟨rfl, Below.refl _ _⟩
  by_cases hl3 : 4096 < ni
  · go_wp2_with fail
    go_ret
    exact ⟨rfl, Below.refl _ _⟩
  have hr5 : nr ≤ 4096 := by omega
  have hg5 : ng ≤ 4096 := by omega
  have hi5 : ni ≤ 4096 := by omega
  clear hlr hlg hli
  go_wp2_with fail
  refine (add_any RR.out SR.out 0 (by omega) (by omega)).mono ?_
  rintro e' w1 ⟨⟨t1, rfl, ht0, ht1⟩, rfl⟩
  by_cases ht2 : 1048576 < t1
  · go_wp2_with fail
    go_ret
    exact ⟨rfl, Below.refl _ _⟩
  go_wp2_with fail
  refine (add_any RG.out SG.out t1 (by omega) (by omega)).mono ?_
  rintro e' w2 ⟨⟨t2, rfl, hu0, hu1⟩, rfl⟩
  by_cases hu2 : 1048576 < t2
  · go_wp2_with fail
    go_ret
    exact ⟨rfl, Below.refl _ _⟩
  go_wp2_with fail
  refine (add_any RI.out SI.out t2 (by omega) (by omega)).mono ?_
  rintro e' w3 ⟨⟨t3, rfl, hv0, hv1⟩, rfl⟩
  by_cases hv2 : 1048576 < t3
  · go_wp2_with fail
    go_ret
    exact ⟨rfl, Below.refl _ _⟩
  go_wp2_with fail
  clear ht0 ht1 hu0 hu1 hv0 hv1 ht2 hu2 hv2 hl1 hl2 hl3
  have bm : ∀ o, Below w3.heap.size w3 (w3.alloc o) := fun o => (Below.refl _ _).alloc (Nat.le_refl _) _
  have hsg : Hid (∀ (j : Nat) s, ig[j]? = some s → s.size ≤ 9223372036854775807) := fun j s hj => by have := SG.out.2 j s hj; omega
  have inp := input_any (w := w3.alloc (.cells #[.slice ar nr cr, .slice ag ng cg, .slice none 0 0, .slice none 0 0, .slice none 0 0, .bool false, .bool false, .bool false, .slice none 0 0, .map none, .map none] 33)) (mk := w3.heap.size) (gv := .slice ag ng cg) (ar := ar) (ai := ai) (cr := cr) (ci := ci) (reqs := reqs) (ig := ig) (imps := imps) (by rw [NR.out]; simp) (by simp) (by rw [NR.out]; exact RR.out.below (bm _)) (RG.out.below (bm _)) (by rw [NI.out]; exact RI.out.below (bm _)) (by rw [NG.out]; omega) hsg.out (by rw [NR.out, NI.out]; omega)
  rw [NI.out] at inp
  refine inp.mono ?_
  clear inp
  rintro e w4 ⟨vo, rfl, hown, hb4⟩
  have hb4' : Below (w3.heap.size + 1) (w3.alloc (.cells #[.slice ar nr cr, .slice ag ng cg, .slice none 0 0, .slice none 0 0, .slice none 0 0, .bool false, .bool false, .bool false, .slice none 0 0, .map none, .map none] 33)) w4 := by simpa using hb4
  have hm0 : w4.cell? ⟨w3.heap.size, 0, none⟩ = some (.slice ar nr cr) := by rw [hb4'.cell (p := ⟨w3.heap.size, 0, none⟩) (by simp)]; simp
  have hm1 : w4.cell? ⟨w3.heap.size, 1, none⟩ = some (.slice ag ng cg) := by rw [hb4'.cell (p := ⟨w3.heap.size, 1, none⟩) (by simp)]; simp
  have hmz : w3.heap.size < w4.heap.size := by have := hb4'.size; simp at this; omega
  have B4 := hidP (show Below w3.heap.size w3 w4 from (bm _).trans (hb4'.mono (by omega)))
  have rowO := row_of_owns hown
  have HST := hidP (outB_strict ig imps reqs)
  have HMEM := hidP (outB_mem ig imps reqs)
  have hlen := outB_len ig imps reqs
  rw [NR.out, NI.out] at hlen
  have HFIX := hidP (outB_fixed ig imps reqs)
  generalize outB ig imps reqs = O at *
  obtain ⟨ao, co, rfl, _⟩ := id rowO
  have RO := hidP rowO
  generalize hno : O.length = no at *
  have NO := hidP hno
  have hlen' : ¬ ((nr : Int) + (ni : Int) < (no : Int)) := by omega
  clear hno rowO hown hb4 hb4' bm
  go_wp2_with fail
  refine (rising_any RO.out HST.out (by rw [NO.out]; omega)).mono ?_
  rintro e w5 ⟨rfl, q, rfl⟩
  have B5 := hidP (below_drewN_refl w4 q w4.heap.size)
  have hmz5 : w3.heap.size < (w4.drewN q).heap.size := hmz
  have hm05 := (B5.out.cell (p := ⟨w3.heap.size, 0, none⟩) hmz).trans hm0
  have hm15 := (B5.out.cell (p := ⟨w3.heap.size, 1, none⟩) hmz).trans hm1
  generalize w4.drewN q = w5 at *
  have b35 : Below w3.heap.size w3 w5 := B4.out.trans (B5.out.mono (by omega))
  have inp := input_any (w := w5) (mk := w3.heap.size) (gv := .slice ag ng cg) (ar := ar) (ai := ao) (cr := cr) (ci := co) (reqs := reqs) (ig := ig) (imps := O) (by rw [NR.out]; exact hm05) hm15 (by rw [NR.out]; exact RR.out.below b35) (RG.out.below b35) (by rw [NO.out]; exact RO.out.below B5.out) (by rw [NG.out]; omega) hsg.out (by rw [NR.out, NO.out]; omega)
  rw [NO.out, HFIX.out] at inp
  have INP := hidP inp
  have B35 := hidP b35
  clear inp b35
  go_wp2_with fail
  refine INP.out.mono ?_
  clear INP
  rintro e w6 ⟨v6, rfl, hown6, hb6⟩
  have row6 := row_of_owns hown6
  obtain ⟨a6, c6, rfl, _⟩ := id row6
  rw [NO.out] at row6
  have RO6 := hidP (RO.out.below (B5.out.trans (hb6.mono B5.out.size)))
  have R6 := hidP row6
  have hmz6 : w3.heap.size < w6.heap.size := by have := hb6.size; omega
  have hm16 := (hb6.cell (p := ⟨w3.heap.size, 1, none⟩) hmz5).trans hm15
  have B36 := hidP (show Below w3.heap.size w3 w6 from B35.out.trans (hb6.mono (by omega)))
  rw [NO.out]
  clear hown6 hb6 row6
  go_wp2_with fail
  refine (equal_any R6.out RO6.out (by rw [NO.out]; omega)).mono ?_
  rintro e w7 ⟨rfl, q7, rfl⟩
  have B7 := hidP (below_drewN_refl w6 q7 w6.heap.size)
  have hmz7 : w3.heap.size < (w6.drewN q7).heap.size := hmz6
  generalize w6.drewN q7 = w7 at *
  have hm17 := (B7.out.cell (p := ⟨w3.heap.size, 1, none⟩) hmz6).trans hm16
  have B37 := hidP (show Below w3.heap.size w3 w7 from B36.out.trans (B7.out.mono (by omega)))
  have RO7 := hidP (RO6.out.below B7.out)
  clear hm0 hm1 hm05 hm15 hm16 hmz hmz5 hmz6
  go_wp2_with fail
  refine (ignoring_any (v := .slice ag ng cg) (ig := ig) hm17 (RG.out.below B37.out) (by rw [NG.out]; omega) hsg.out).mono ?_
  rintro e w8 ⟨v8, rfl, hig, hb8⟩
  obtain ⟨mb1, qv1, Q1, rfl, _, ⟨aq1, cq1, rfl, _⟩, _⟩ := id hig
  have HIG := hidP hig
  have B8 := hidP hb8
  have B38 := hidP (show Below w3.heap.size w3 w8 from B37.out.trans (hb8.mono (by omega)))
  have hz8 := hb8.size
  clear hig hb8 B37 B36 B35 B7 B5 R6 RO6
  obtain ⟨i0, hi, hz0, hz1, hz2⟩ := info_parts info4
  go_wp2_with (first
    | (at_make; refine wpList_make_full _ rfl _ _ 38 rfl (w8.heap.size + 1) 4 i0 (.bool false) 1 Try.underlying38 hi hz0 hz1 .i64 .i64 _ _ no rfl rfl rfl rfl ?m1 ?m2 ?m3 ?_))
  case m1 => rw [hz2]; omega
  case m2 => unfold maxLen; omega
  case m3 => simp
  intro w10 hown10 hg10
  have hown11 : w10.ownsRow (w8.heap.size + 1) 4 1 (.slice (some ⟨w8.heap.size + 1, 0, none⟩) no no) no (List.replicate no (.bool false)) := by
    rw [toList_madeCells_one] at hown10
    exact hown10
  have hlt10 : w8.heap.size + 1 < w10.heap.size := (hown11.lt (w8.heap.size + 1) rfl).2
  have M10 := hidP (marks_of_own hown11)
  have b10 : Below (w8.heap.size + 1) (w8.alloc (.cells #[.map (some mb1), .slice aq1 Q1.length cq1] 44)) w10 := (Below.refl _ _).grown hg10 (by simp) (fun j hj => by cases hj)
  have bw : Below w8.heap.size w8 (w8.alloc (.cells #[.map (some mb1), .slice aq1 Q1.length cq1] 44)) := (Below.refl _ _).alloc (Nat.le_refl _) _
  have k0 : (w8.alloc (.cells #[.map (some mb1), .slice aq1 Q1.length cq1] 44)).cell? ⟨w8.heap.size, 0, none⟩ = some (.map (some mb1)) := by simp
  have k1 : (w8.alloc (.cells #[.map (some mb1), .slice aq1 Q1.length cq1] 44)).cell? ⟨w8.heap.size, 1, none⟩ = some (.slice aq1 Q1.length cq1) := by simp
  have hwz : (w8.alloc (.cells #[.map (some mb1), .slice aq1 Q1.length cq1] 44)).heap.size = w8.heap.size + 1 := by simp
  have HIG9 := hidP (HIG.out.below bw)
  have B39 := hidP (show Below w3.heap.size w3 _ from B38.out.trans (bw.mono (by omega)))
  have RO9 := hidP ((RO7.out.below B8.out).below bw)
  clear hown10 hg10 hown11 hi hz0 hz1 hz2 bw HIG B8 B38 RO7
  generalize w8.alloc (.cells #[.map (some mb1), .slice aq1 Q1.length cq1] 44) = wb at *
  have c0 : w10.cell? ⟨w8.heap.size, 0, none⟩ = some (.map (some mb1)) := (b10.cell (p := ⟨w8.heap.size, 0, none⟩) (by simp)).trans k0
  have c1 : w10.cell? ⟨w8.heap.size, 1, none⟩ = some (.slice aq1 Q1.length cq1) := (b10.cell (p := ⟨w8.heap.size, 1, none⟩) (by simp)).trans k1
  have hIF : Hid (∀ x, x ∈ imps → (x ∈ O ↔ named ig x = false)) := fun x hx => by rw [HMEM.out x]; simp [hx]
  have hRF : Hid (∀ x, x ∈ reqs → (x ∈ O ↔ named ig x = false)) := fun x hx => by rw [HMEM.out x]; simp [hx]
  rw [← hwz] at b10
  have RI9 := hidP (RI.out.below B39.out)
  have RR9 := hidP (RR.out.below B39.out)
  have mk1 := markI_any (w := w10) (wb := wb) (hb := w8.heap.size + 1) (cap := no) (h0 := fun _ => false) (ig := ig) (by omega) hlt10 RO9.out RI9.out HIG9.out b10 (by rw [NO.out]; exact M10.out) HST.out (by rw [NO.out]; omega) SI.out hIF.out
  rw [NO.out] at mk1
  have MK1 := hidP mk1
  clear mk1 M10 hIF
  go_wp2_with fail
  refine MK1.out.mono ?_
  clear MK1
  rintro e w11 ⟨rfl, h1, hinv1⟩
  have d0 : w11.cell? ⟨w8.heap.size, 0, none⟩ = some (.map (some mb1)) := (hinv1.below.cell (p := ⟨w8.heap.size, 0, none⟩) (by simp; omega)).trans k0
  have d1 : w11.cell? ⟨w8.heap.size, 1, none⟩ = some (.slice aq1 Q1.length cq1) := (hinv1.below.cell (p := ⟨w8.heap.size, 1, none⟩) (by simp; omega)).trans k1
  have mk2 := markI_any (w := w11) (wb := wb) (hb := w8.heap.size + 1) (cap := no) (h0 := h1) (ig := ig) (by omega) hinv1.size RO9.out RR9.out HIG9.out hinv1.below hinv1.marks HST.out (by rw [NO.out]; omega) SR.out hRF.out
  rw [NO.out] at mk2
  have MK2 := hidP mk2
  have IV1 := hidP hinv1
  clear mk2 hinv1 hRF c0 c1
  go_wp2_with fail
  refine MK2.out.mono ?_
  clear MK2
  rintro e w12 ⟨rfl, h2, hinv2⟩
  have hallh : ∀ j, j < no → h2 j = true := by
    intro j hj
    have hj' : j < O.length := by rw [NO.out]; exact hj
    have hoj : O[j]? = some (O[j]'hj') := List.getElem?_eq_getElem hj'
    rcases ((HMEM.out _).1 (List.mem_of_getElem? hoj)).1 with hm | hm
    · exact hinv2.more j (IV1.out.hits j _ hoj (by rw [List.take_length]; exact hm))
    · exact hinv2.hits j _ hoj (by rw [List.take_length]; exact hm)
  have hmk := hinv2.marks
  rw [NO.out] at hmk
  have AH := hidP (allHit_any (cap := no) hmk hallh (by omega))
  have BE := hidP (show Below w3.heap.size w3 w12 from B39.out.trans (hinv2.below.mono (by omega)))
  clear hinv2 hallh hmk
  go_wp2_with fail
  refine AH.out.mono ?_
  rintro e w13 ⟨rfl, rfl⟩
  go_wp2_with fail
  go_ret
  exact ⟨rfl, BE.out⟩
end Go.Proofs.Qxb6617078a
