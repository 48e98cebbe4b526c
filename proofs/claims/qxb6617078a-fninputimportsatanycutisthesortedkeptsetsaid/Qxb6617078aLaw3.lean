/-
  THE WALK of the law FnInputImportsAtAnyCutIsTheSortedKeptSet (3).
-/
import Derived.Test.Qxb6617078aInput
import Derived.Test.Qxb6617078aUnion
import Derived.Test.Qxb6617078aMarkM
import Derived.Test.Qxb6617078aBytesN
namespace Go.Proofs.Qxb6617078a
open Go.RowKit

theorem row_take {w : World} {a : Option Addr} {n m c : Nat} {xs : List ByteArray} (h : Row w (.slice a n c) xs) (hn : xs.length = n) (hm : m ≤ n) : Row w (.slice a m c) (xs.take m) := by
  obtain ⟨a', c', hv, hc⟩ := h
  cases hv
  refine ⟨a, c, by rw [List.length_take, hn, Nat.min_eq_left hm], fun i t ht => hc i t ?_⟩
  rw [List.getElem?_take] at ht
  split at ht
  · exact ht
  · cases ht

/-- imported[m:], as the model lays it. -/
theorem row_drop {w : World} {a : Option Addr} {n m c : Nat} {xs : List ByteArray} (h : Row w (.slice a n c) xs) (hn : xs.length = n) (hc : n ≤ c) :
    ∃ adr cc, Row w (.slice adr (n - m) cc) (xs.drop m) ∧ ((c ≤ m ∧ adr = a ∧ cc = 0) ∨ (m < c ∧ adr = a.map (fun x => x.add m) ∧ cc = c - m)) := by
  obtain ⟨a', c', hv, hcell⟩ := h
  cases hv
  by_cases hm : c ≤ m
  · refine ⟨a, 0, ⟨a, 0, by rw [List.length_drop, hn], fun i t ht => ?_⟩, .inl ⟨hm, rfl, rfl⟩⟩
    rw [List.getElem?_drop] at ht
    have := getElem?_lt ht
    omega
  · refine ⟨a.map (fun x => x.add m), c - m, ⟨_, _, by rw [List.length_drop, hn], fun i t ht => ?_⟩, .inr ⟨by omega, rfl, rfl⟩⟩
    rw [List.getElem?_drop] at ht
    obtain ⟨b, off, rfl, hk⟩ := hcell (m + i) t ht
    refine ⟨b, off + m, by simp [Addr.add], ?_⟩
    rw [Nat.add_assoc]
    exact hk

theorem info4b : (Try.prog.info? 4).map (fun i => (i.zero, i.size, i.bytes)) = some (some (.bool false), 1, 1) := by kernel_rfl

theorem marks_of_own' {w : World} {base hb n : Nat} (h : w.ownsRow base 4 1 (.slice (some ⟨hb, 0, none⟩) n n) n (List.replicate n (.bool false))) : Marks w hb (fun _ => false) n := by
  rcases h.2 with ⟨hv, _⟩ | ⟨g, cap, cur, hv, _, hg, _, _, _, h4⟩
  · cases hv
  · cases hv
    intro j hj
    have h5 : cur[j]? = some (.bool false) := by
      have h6 : (cur.toList.take (n * 1))[j]? = some (.bool false) := by rw [h4]; simp [hj]
      rw [List.getElem?_take] at h6
      simpa [hj] using h6
    exact ⟨by simp [World.cell?, hg, h5], by simp [World.frozen?, hg]⟩

set_option maxRecDepth 100000 in
set_option maxHeartbeats 8000000 in
theorem law3_main (ar ag ai : Option Addr) (cr cg ci : Nat) (reqs ig imps : List ByteArray) (x : Int) (w : World) (hlr : reqs.length ≤ 9223372036854775807) (hlg : ig.length ≤ 9223372036854775807) (hli : imps.length ≤ 9223372036854775807) (hci : imps.length ≤ ci)
    (rowR : Row w (.slice ar reqs.length cr) reqs) (rowG : Row w (.slice ag ig.length cg) ig) (rowI : Row w (.slice ai imps.length ci) imps)
    (hby : Calls Try.prog 7 #[.slice ar reqs.length cr, .slice ag ig.length cg, .slice ai imps.length ci, .int .i64 x] w fun e' w' => Says (Small3 reqs ig imps) e' ∧ w' = w) :
    Calls Try.prog 3 #[.slice ar reqs.length cr, .slice ag ig.length cg, .slice ai imps.length ci, .int .i64 x] w fun e w' => e = .returned (.bool true) ∧ Below w.heap.size w w' := by
  have HB := hidP hby
  have RR := hidP rowR
  have RG := hidP rowG
  have RI := hidP rowI
  clear hby rowR rowG rowI
  generalize hnr : reqs.length = nr at *
  have NR := hidP hnr
  clear hnr
  generalize hng : ig.length = ng at *
  have NG := hidP hng
  clear hng
  generalize hni : imps.length = ni at *
  have NI := hidP hni
  clear hni
  go_enter Try.func3, Try.ntmps3
  go_wp2_with fail
  refine HB.out.mono ?_
  rintro e' w0 ⟨⟨r, rfl, hr⟩, rfl⟩
  cases r with
  | false =>
    go_wp2_with fail
    go_ret
    exact ⟨rfl, Below.refl _ _⟩
  | true =>
  obtain ⟨hsr, hsg, hsi⟩ := hr rfl
  have SR := hidP hsr
  have SG := hidP hsg
  have SI := hidP hsi
  clear hr hsr hsg hsi HB
  by_cases hl1 : 4096 < nr
  · go_wp2_with fail
    go_ret
    exact ⟨rfl, Below.refl _ _⟩
  by_cases hl2 : 4096 < ng
  · go_wp2_with fail
    go_ret
    exact ⟨rfl, Below.refl _ _⟩
  by_cases hl3 : 4096 < ni
  · go_wp2_with fail
    go_ret
    exact ⟨rfl, Below.refl _ _⟩
  have hr5 : nr ≤ 4096 := by omega
  have hg5 : ng ≤ 4096 := by omega
  have hi5 : ni ≤ 4096 := by omega
  clear hlr hlg hli
  go_wp2_with fail
  refine (add_any RR.out SR.out 0 (by omega) (by omega)).mono ?_
  rintro e' w1 ⟨⟨t1, rfl, ht0, ht1⟩, rfl⟩
  by_cases ht2 : 1048576 < t1
  · go_wp2_with fail
    go_ret
    exact ⟨rfl, Below.refl _ _⟩
  go_wp2_with fail
  refine (add_any RG.out SG.out t1 (by omega) (by omega)).mono ?_
  rintro e' w2 ⟨⟨t2, rfl, hu0, hu1⟩, rfl⟩
  by_cases hu2 : 1048576 < t2
  · go_wp2_with fail
    go_ret
    exact ⟨rfl, Below.refl _ _⟩
  go_wp2_with fail
  refine (add_any RI.out SI.out t2 (by omega) (by omega)).mono ?_
  rintro e' w3 ⟨⟨t3, rfl, hv0, hv1⟩, rfl⟩
  by_cases hv2 : 1048576 < t3
  · go_wp2_with fail
    go_ret
    exact ⟨rfl, Below.refl _ _⟩
  by_cases hx0 : x < 0
  · go_wp2_with fail
    go_ret
    exact ⟨rfl, Below.refl _ _⟩
  obtain ⟨m, rfl⟩ := Int.eq_ofNat_of_zero_le (Int.not_lt.1 hx0)
  have hxd : decide ((m : Int) < 0) = false := decide_eq_false hx0
  by_cases hx1 : (ni : Int) < (m : Int)
  · go_wp2_with fail
    go_ret
    exact ⟨rfl, Below.refl _ _⟩
  have hmn : m ≤ ni := by omega
  go_wp2_with fail
  clear ht0 ht1 hu0 hu1 hv0 hv1 ht2 hu2 hv2 hl1 hl2 hl3 hx0 hxd hx1
  have bm : ∀ o, Below w3.heap.size w3 (w3.alloc o) := fun o => (Below.refl _ _).alloc (Nat.le_refl _) _
  have hsg : Hid (∀ (j : Nat) s, ig[j]? = some s → s.size ≤ 9223372036854775807) := fun j s hj => by have := SG.out.2 j s hj; omega
  have inp := input_any (w := w3.alloc (.cells #[.slice ar nr cr, .slice ag ng cg, .slice none 0 0, .slice none 0 0, .slice none 0 0, .bool false, .bool false, .bool false, .slice none 0 0, .map none, .map none] 33)) (mk := w3.heap.size) (gv := .slice ag ng cg) (ar := ar) (ai := ai) (cr := cr) (ci := ci) (reqs := reqs) (ig := ig) (imps := imps) (by rw [NR.out]; simp) (by simp) (by rw [NR.out]; exact RR.out.below (bm _)) (RG.out.below (bm _)) (by rw [NI.out]; exact RI.out.below (bm _)) (by rw [NG.out]; omega) hsg.out (by rw [NR.out, NI.out]; omega)
  rw [NI.out] at inp
  refine inp.mono ?_
  clear inp
  rintro e w4 ⟨vo, rfl, hown, hb4⟩
  have hb4' : Below (w3.heap.size + 1) (w3.alloc (.cells #[.slice ar nr cr, .slice ag ng cg, .slice none 0 0, .slice none 0 0, .slice none 0 0, .bool false, .bool false, .bool false, .slice none 0 0, .map none, .map none] 33)) w4 := by simpa using hb4
  have hm0 : w4.cell? ⟨w3.heap.size, 0, none⟩ = some (.slice ar nr cr) := by rw [hb4'.cell (p := ⟨w3.heap.size, 0, none⟩) (by simp)]; simp
  have hm1 : w4.cell? ⟨w3.heap.size, 1, none⟩ = some (.slice ag ng cg) := by rw [hb4'.cell (p := ⟨w3.heap.size, 1, none⟩) (by simp)]; simp
  have hmz : w3.heap.size < w4.heap.size := by have := hb4'.size; simp at this; omega
  have B4 := hidP (show Below w3.heap.size w3 w4 from (bm _).trans (hb4'.mono (by omega)))
  have rowO := row_of_owns hown
  have HST := hidP (outB_strict ig imps reqs)
  have HMEM := hidP (outB_mem ig imps reqs)
  have hlen := outB_len ig imps reqs
  rw [NR.out, NI.out] at hlen
  have HFIX := hidP (outB_fixed ig imps reqs)
  generalize outB ig imps reqs = O at *
  obtain ⟨ao, co, rfl, _⟩ := id rowO
  have RO := hidP rowO
  generalize hno : O.length = no at *
  have NO := hidP hno
  have hlen' : ¬ ((nr : Int) + (ni : Int) < (no : Int)) := by omega
  clear hno rowO hown hb4 hb4' bm
  have hm0i : (0 : Int) ≤ (m : Int) := by omega
  have hm1i : (m : Int) ≤ (ci : Int) := by omega
  have hm2i : (m : Int) ≤ (ni : Int) := by omega
  have hlm : (imps.take m).length = m := by rw [List.length_take, NI.out, Nat.min_eq_left hmn]
  have inp := input_any (w := w4) (mk := w3.heap.size) (gv := .slice ag ng cg) (ar := ar) (ai := ai) (cr := cr) (ci := ci) (reqs := reqs) (ig := ig) (imps := imps.take m) (by rw [NR.out]; exact hm0) hm1 (by rw [NR.out]; exact RR.out.below B4.out) (RG.out.below B4.out) (by rw [hlm]; exact (row_take RI.out NI.out hmn).below B4.out) (by rw [NG.out]; omega) hsg.out (by rw [NR.out, hlm]; omega)
  rw [hlm] at inp
  have INP := hidP inp
  clear inp
  go_wp2_with fail
  refine INP.out.mono ?_
  clear INP
  rintro e w5 ⟨vl, rfl, hown5, hb5⟩
  have rowL := row_of_owns hown5
  have LST := hidP (outB_strict ig (imps.take m) reqs)
  have LMEM := hidP (outB_mem ig (imps.take m) reqs)
  have hlenL := outB_len ig (imps.take m) reqs
  rw [NR.out, hlm] at hlenL
  generalize outB ig (imps.take m) reqs = L at *
  obtain ⟨al, cl, rfl, _⟩ := id rowL
  have RL := hidP rowL
  generalize hnl : L.length = nl at *
  have NL := hidP hnl
  have hmz5 : w3.heap.size < w5.heap.size := by have := hb5.size; omega
  have hm05 := (hb5.cell (p := ⟨w3.heap.size, 0, none⟩) hmz).trans hm0
  have hm15 := (hb5.cell (p := ⟨w3.heap.size, 1, none⟩) hmz).trans hm1
  have B35 := hidP (show Below w3.heap.size w3 w5 from B4.out.trans (hb5.mono (by omega)))
  have RO5 := hidP (RO.out.below hb5)
  clear hnl rowL hown5 hb5 hm0 hm1 hmz RO B4
  have hld : (imps.drop m).length = ni - m := by rw [List.length_drop, NI.out]
  obtain ⟨adr, cc, hR, hcase⟩ := row_drop (m := m) RI.out NI.out hci
  have inp := input_any (w := w5) (mk := w3.heap.size) (gv := .slice ag ng cg) (ar := ar) (ai := adr) (cr := cr) (ci := cc) (reqs := reqs) (ig := ig) (imps := imps.drop m) (by rw [NR.out]; exact hm05) hm15 (by rw [NR.out]; exact RR.out.below B35.out) (RG.out.below B35.out) (by rw [hld]; exact hR.below B35.out) (by rw [NG.out]; omega) hsg.out (by rw [NR.out, hld]; omega)
  rw [hld] at inp
  have INP := hidP inp
  clear inp hR
  rcases hcase with ⟨hcm, rfl, rfl⟩ | ⟨hcm, rfl, rfl⟩
  all_goals
    go_wp2_with fail
    refine INP.out.mono ?_
    clear INP
    rintro e w6 ⟨vr, rfl, hown6, hb6⟩
    have rowD := row_of_owns hown6
    have DST := hidP (outB_strict ig (imps.drop m) reqs)
    have DMEM := hidP (outB_mem ig (imps.drop m) reqs)
    have hlenD := outB_len ig (imps.drop m) reqs
    rw [NR.out, hld] at hlenD
    generalize outB ig (imps.drop m) reqs = R at *
    obtain ⟨ad, cd, rfl, _⟩ := id rowD
    have RD := hidP rowD
    generalize hnd : R.length = nd at *
    have ND := hidP hnd
    have B36 := hidP (show Below w3.heap.size w3 w6 from B35.out.trans (hb6.mono (by omega)))
    have RO6 := hidP (RO5.out.below hb6)
    have RL6 := hidP (RL.out.below hb6)
    have hz6 : w3.heap.size < w6.heap.size := by have := hb6.size; omega
    clear hnd rowD hown6 hb6 hm05 hm15 hmz5 RO5 RL B35
    go_wp2_with fail
    refine (union_any RL6.out RD.out LST.out DST.out (by rw [NL.out]; omega) (by rw [ND.out]; omega)).mono ?_
    rintro e w7 ⟨U, hU1, hU2, vu, rfl, hown7, hb7⟩
    have hUO : U = O := by
      refine strictB_ext hU1 HST.out (fun x => ?_)
      rw [hU2 x, LMEM.out x, DMEM.out x, HMEM.out x]
      have hx : x ∈ imps ↔ x ∈ imps.take m ∨ x ∈ imps.drop m := by
        conv => lhs; rw [← List.take_append_drop m imps]
        rw [List.mem_append]
      rw [hx]
      constructor
      · rintro (⟨h1 | h1, h2⟩ | ⟨h1 | h1, h2⟩)
        · exact ⟨.inl (.inl h1), h2⟩
        · exact ⟨.inr h1, h2⟩
        · exact ⟨.inl (.inr h1), h2⟩
        · exact ⟨.inr h1, h2⟩
      · rintro ⟨(h1 | h1) | h1, h2⟩
        · exact .inl ⟨.inl h1, h2⟩
        · exact .inr ⟨.inl h1, h2⟩
        · exact .inl ⟨.inr h1, h2⟩
    subst hUO
    have rowU := row_of_owns hown7
    have RU := hidP rowU
    have RO7 := hidP (RO6.out.below hb7)
    have B37 := hidP (show Below w3.heap.size w3 w7 from B36.out.trans (hb7.mono (by omega)))
    have hz7 : w3.heap.size < w7.heap.size := by have := hb7.size; omega
    clear hU1 hU2 hown7 hb7 rowU RL6 RD LST DST LMEM DMEM RO6 B36
    go_wp2_with fail
    refine (equal_any RO7.out RU.out (by rw [NO.out]; omega)).mono ?_
    rintro e w8 ⟨rfl, q8, rfl⟩
    have B8 := hidP (below_drewN_refl w7 q8 w7.heap.size)
    have hz8 : w3.heap.size < (w7.drewN q8).heap.size := hz7
    generalize w7.drewN q8 = w8 at *
    have B38 := hidP (show Below w3.heap.size w3 w8 from B37.out.trans (B8.out.mono (by omega)))
    have RO8 := hidP (RO7.out.below B8.out)
    clear RU RO7 B37 B8
    go_wp2_with fail
    refine (rising_any RO8.out HST.out (by rw [NO.out]; omega)).mono ?_
    rintro e w9 ⟨rfl, q9, rfl⟩
    have B9 := hidP (below_drewN_refl w8 q9 w8.heap.size)
    have hz9 : w3.heap.size < (w8.drewN q9).heap.size := hz8
    generalize w8.drewN q9 = w9 at *
    have B39 := hidP (show Below w3.heap.size w3 w9 from B38.out.trans (B9.out.mono (by omega)))
    have RO9 := hidP (RO8.out.below B9.out)
    clear RO8 B38 B9
    obtain ⟨i0, hi, hz0, hz1, hz2⟩ := info_parts info4b
    go_wp2_with (first
      | (at_make; refine wpList_make_full _ rfl _ _ 38 rfl w9.heap.size 4 i0 (.bool false) 1 Try.underlying38 hi hz0 hz1 .i64 .i64 _ _ no rfl rfl rfl rfl ?m1 ?m2 ?m3 ?_))
    case m1 => rw [hz2]; omega
    case m2 => unfold maxLen; omega
    case m3 => simp
    intro w10 hown10 hg10
    have hown11 : w10.ownsRow w9.heap.size 4 1 (.slice (some ⟨w9.heap.size, 0, none⟩) no no) no (List.replicate no (.bool false)) := by
      rw [toList_madeCells_one] at hown10
      exact hown10
    have hlt10 : w9.heap.size < w10.heap.size := (hown11.lt w9.heap.size rfl).2
    have M10 := hidP (marks_of_own' hown11)
    have b10 : Below w9.heap.size w9 w10 := (Below.refl _ _).grown hg10 (Nat.le_refl _) (fun j hj => by cases hj)
    clear hown10 hg10 hown11 hi hz0 hz1 hz2
    have hIF : Hid (∀ x, x ∈ imps → (x ∈ U ↔ named ig x = false)) := fun x hx => by rw [HMEM.out x]; simp [hx]
    have hRF : Hid (∀ x, x ∈ reqs → (x ∈ U ↔ named ig x = false)) := fun x hx => by rw [HMEM.out x]; simp [hx]
    have RI9 := hidP (RI.out.below B39.out)
    have RR9 := hidP (RR.out.below B39.out)
    have RG9 := hidP (RG.out.below B39.out)
    have mk1 := markM_any (w := w10) (wb := w9) (hb := w9.heap.size) (cap := no) (h0 := fun _ => false) (ig := ig) (Nat.le_refl _) hlt10 RO9.out RI9.out RG9.out b10 (by rw [NO.out]; exact M10.out) HST.out (by rw [NO.out]; omega) SI.out SG.out hIF.out
    rw [NO.out] at mk1
    have MK1 := hidP mk1
    clear mk1 M10 hIF
    go_wp2_with fail
    refine MK1.out.mono ?_
    clear MK1
    rintro e w11 ⟨rfl, h1, hinv1⟩
    have mk2 := markM_any (w := w11) (wb := w9) (hb := w9.heap.size) (cap := no) (h0 := h1) (ig := ig) (Nat.le_refl _) hinv1.size RO9.out RR9.out RG9.out hinv1.below hinv1.marks HST.out (by rw [NO.out]; omega) SR.out SG.out hRF.out
    rw [NO.out] at mk2
    have MK2 := hidP mk2
    have IV1 := hidP hinv1
    clear mk2 hinv1 hRF
    go_wp2_with fail
    refine MK2.out.mono ?_
    clear MK2
    rintro e w12 ⟨rfl, h2, hinv2⟩
    have hallh : ∀ j, j < no → h2 j = true := by
      intro j hj
      have hj' : j < U.length := by rw [NO.out]; exact hj
      have hoj : U[j]? = some (U[j]'hj') := List.getElem?_eq_getElem hj'
      rcases ((HMEM.out _).1 (List.mem_of_getElem? hoj)).1 with hm | hm
      · exact hinv2.more j (IV1.out.hits j _ hoj (by rw [List.take_length]; exact hm))
      · exact hinv2.hits j _ hoj (by rw [List.take_length]; exact hm)
    have hmk := hinv2.marks
    rw [NO.out] at hmk
    have AH := hidP (allHit_any (cap := no) hmk hallh (by omega))
    have BE := hidP (show Below w3.heap.size w3 w12 from B39.out.trans (hinv2.below.mono (by omega)))
    clear hinv2 hallh hmk
    go_wp2_with fail
    refine AH.out.mono ?_
    rintro e w13 ⟨rfl, rfl⟩
    go_wp2_with fail
    go_ret
    exact ⟨rfl, BE.out⟩
end Go.Proofs.Qxb6617078a
