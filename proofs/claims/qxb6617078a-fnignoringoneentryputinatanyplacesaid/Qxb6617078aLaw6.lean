/-
  THE WALK of the law FnIgnoringOneEntryPutInAtAnyPlace (6).
-/
import Derived.Test.Qxb6617078aIgnoring
import Derived.Test.Qxb6617078aBytesI
namespace Go.Proofs.Qxb6617078a
open Go.RowKit

/-- v OWNS ws AMONG THE CALL's OWN BLOCKS; what lay below is as it was. -/
structure InvW (w : World) (v : Value) (ws : List ByteArray) (wr : World) : Prop where
  owns : wr.ownsRow w.heap.size 9 1 v ws.length (ws.map Value.string)
  below : Below w.heap.size w wr

theorem InvW.push {w wr w2 : World} {v : Value} {ws : List ByteArray} {s : ByteArray} (h : InvW w v ws wr) {g cap : Nat}
    (a1 : w2.ownsRow w.heap.size 9 1 (.slice (some ⟨g, 0, none⟩) (ws.length + 1) cap) (ws.length + 1) (ws.map Value.string ++ [.string s])) (a2 : wr.grownBy w2 v.ownBlock) :
    InvW w (.slice (some ⟨g, 0, none⟩) (ws.length + 1) cap) (ws ++ [s]) w2 :=
  ⟨by simpa using a1, h.below.grown a2 h.below.size (fun j hj => (h.owns.lt j hj).1)⟩

theorem take_push {ig : List ByteArray} {k : Nat} {e : ByteArray} (h : ig[k]? = some e) : ig.take k ++ [e] = ig.take (k + 1) := by
  rw [List.take_add_one, h]
  rfl
theorem mid_push {ig : List ByteArray} {m k : Nat} {e y : ByteArray} (h : ig[k]? = some y) (hm : m ≤ k) : (ig.take m ++ [e] ++ (ig.take k).drop m) ++ [y] = ig.take m ++ [e] ++ (ig.take (k + 1)).drop m := by
  have hk := getElem?_lt h
  rw [← take_push h, List.drop_append_of_le_length (by simp; omega), List.append_assoc]

theorem named_put (ig : List ByteArray) (m : Nat) (e p : ByteArray) : named (ig.take m ++ [e] ++ ig.drop m) p = (named ig p || Pl.names (D e) (D p)) := by
  have h : named ig p = (named (ig.take m) p || named (ig.drop m) p) := by
    conv => lhs; rw [← List.take_append_drop m ig]
    unfold named Pl.named
    rw [List.map_append, List.any_append]
  rw [h]
  unfold named Pl.named
  rw [List.map_append, List.map_append, List.any_append, List.any_append]
  simp only [List.map_cons, List.map_nil, List.any_cons, List.any_nil, Bool.or_false]
  cases (List.map D (List.take m ig)).any fun e => Pl.names e (D p) <;> cases (List.map D (List.drop m ig)).any fun e => Pl.names e (D p) <;> cases Pl.names (D e) (D p) <;> rfl

set_option maxRecDepth 100000 in
set_option maxHeartbeats 4000000 in
theorem law6_main (a : Option Addr) (cap : Nat) (ig : List ByteArray) (x : Int) (e p : ByteArray) (w : World) (hl : ig.length ≤ 9223372036854775807)
    (hrow : Row w (.slice a ig.length cap) ig)
    (hby : Calls Try.prog 21 #[.slice a ig.length cap, .int .i64 x, .string e, .string p] w fun e' w' => Says (SmallXY ig e p) e' ∧ w' = w) :
    Calls Try.prog 6 #[.slice a ig.length cap, .int .i64 x, .string e, .string p] w fun e w' => e = .returned (.bool true) ∧ Below w.heap.size w w' := by
  have HB := hidP hby
  have HR := hidP hrow
  have HC : Hid (∀ (i : Nat) t, ig[i]? = some t → ∃ b off, a = some ⟨b, off, none⟩ ∧ w.cell? ⟨b, off + i, none⟩ = some (.string t)) := by
    obtain ⟨a', cap', hv, hc⟩ := hrow
    cases hv
    exact hc
  clear hby hrow
  generalize hn : ig.length = n at *
  have HN := hidP hn
  clear hn
  go_enter Try.func6, Try.ntmps6
  go_wp2_with fail
  refine HB.out.mono ?_
  rintro e' w0 ⟨⟨r, rfl, hr⟩, rfl⟩
  cases r with
  | false =>
    go_wp2_with fail
    go_ret
    exact ⟨rfl, Below.refl _ _⟩
  | true =>
  obtain ⟨hsm, he1, hp1⟩ := hr rfl
  have HSM := hidP hsm
  clear hr hsm
  by_cases hl4 : 65536 < n
  · go_wp2_with fail
    go_ret
    exact ⟨rfl, Below.refl _ _⟩
  have hl5 : n ≤ 65536 := by omega
  clear hl4 hl
  go_wp2_with fail
  refine (add_any HR.out HSM.out 0 (by omega) (by omega)).mono ?_
  rintro e' w1 ⟨⟨t, rfl, ht0, ht1⟩, rfl⟩
  by_cases ht2 : 1048576 < t
  · go_wp2_with fail
    go_ret
    exact ⟨rfl, Below.refl _ _⟩
  by_cases ht3 : 1048576 < t + e.size
  · go_wp2_with fail
    go_ret
    exact ⟨rfl, Below.refl _ _⟩
  by_cases ht4 : 1048576 < t + e.size + p.size
  · go_wp2_with fail
    go_ret
    exact ⟨rfl, Below.refl _ _⟩
  by_cases hx0 : x < 0
  · go_wp2_with fail
    go_ret
    exact ⟨rfl, Below.refl _ _⟩
  obtain ⟨m, rfl⟩ := Int.eq_ofNat_of_zero_le (Int.not_lt.1 hx0)
  have hxd : decide ((m : Int) < 0) = false := decide_eq_false hx0
  by_cases hx1 : (n : Int) < (m : Int)
  · go_wp2_with fail
    go_ret
    exact ⟨rfl, Below.refl _ _⟩
  have hmn : m ≤ n := by omega
  clear hx0
  obtain ⟨i0, hi, hz0, hz1, hz2⟩ := info_parts info9
  go_wp2_with (first
    | (at_make; refine wpList_make_own _ rfl _ _ 22 rfl w1.heap.size 9 i0 (.string ⟨#[]⟩) 1 Try.underlying22 hi hz0 hz1 .i64 .i64 _ (n + 1) rfl rfl ?m1 ?m2 ?m3 ?m4 ?_))
  case m1 => omega
  case m2 => rw [hz2]; omega
  case m3 => unfold maxLen; omega
  case m4 => exact Nat.le_refl _
  intro w2 hown0 hg0
  have W0 := hidP (show InvW w1 (.slice (some ⟨w1.heap.size, 0, none⟩) 0 (n + 1)) (ig.take 0) w2 from ⟨by simpa using hown0, (Below.refl _ _).grown hg0 (Nat.le_refl _) (fun j hj => by cases hj)⟩)
  clear hown0 hg0
  go_wp2_with fail
  go_loopw [10, 11] (fun v i wr => ∃ (k : Nat), k ≤ m ∧ i = .int .i64 k ∧ InvW w1 v (ig.take k) wr) (fun _ i _ => m - (intOf i).toNat)
  case atStart => exact ⟨0, Nat.zero_le _, rfl, W0.out⟩
  case round =>
    obtain ⟨k, hk, rfl, hinv⟩ := hrel
    have HI := hidP hinv
    have hown := hinv.owns
    have hsz := hinv.below.size
    have hwl : (ig.take k).length ≤ 65536 := by rw [List.length_take]; omega
    clear hinv
    by_cases hlt : k < m
    · obtain ⟨y, hy⟩ : ∃ y, ig[k]? = some y := ⟨ig[k]'(by rw [HN.out]; omega), by rw [List.getElem?_eq_getElem]⟩
      obtain ⟨b, off, rfl, hcy⟩ := HC.out k y hy
      have hbl : b < w1.heap.size := World.block_lt_of_cell? w1 _ hcy
      have hck : wr.cell? ⟨b, off + k, none⟩ = some (.string y) := (HI.out.below.cell (p := ⟨b, off + k, none⟩) hbl).trans hcy
      have hkn : k < n := by omega
      have HY := hidP hy
      clear hy hcy
      generalize hws : ig.take k = ws at *
      have HWS := hidP hws
      clear hws
      go_wp2_with (first
        | (at_builtin; refine wpList_append_lies _ rfl _ _ 22 rfl w1.heap.size 9 i0 (.string ⟨#[]⟩) 1 16 Try.underlying22 hi hz0 hz1 hz2 rfl (by decide) _ _ _ rfl (hown.alloc _) ⟨wr.heap.size, 0, none⟩ 1 1 [.string y] rfl rfl ?c1 ?c2 (by decide) ?c3 ?c4 ?c5 _ rfl ?_))
      case c1 => exact cell_one_new _ _ _
      case c2 => intro u hu; simp at hu; subst hu; rfl
      case c3 => unfold maxLen; omega
      case c4 => omega
      case c5 => simp; omega
      intro g cap' w4 a1 a2 a3 _
      have A1 := hidP a1
      have A2 := hidP ((World.grownBy_alloc wr _ _).trans a2)
      clear a1 a2 a3 hown
      go_wp2_with fail
      go_roundw
      case rel =>
        have hnew := HI.out.push A1.out A2.out
        have e1 : ws ++ [y] = ig.take (k + 1) := by rw [← HWS.out]; exact take_push HY.out
        rw [e1] at hnew
        exact ⟨k + 1, by omega, by go_num, hnew⟩
      case measure => simp [intOf]; omega
    · have hkm : k = m := by omega
      subst hkm
      generalize hws : ig.take k = ws at *
      have HWS := hidP hws
      clear hws
      go_wp2_with (first
        | (at_builtin; refine wpList_append_lies _ rfl _ _ 22 rfl w1.heap.size 9 i0 (.string ⟨#[]⟩) 1 16 Try.underlying22 hi hz0 hz1 hz2 rfl (by decide) _ _ _ rfl (hown.alloc _) ⟨wr.heap.size, 0, none⟩ 1 1 [.string e] rfl rfl ?d1 ?d2 (by decide) ?d3 ?d4 ?d5 _ rfl ?_))
      case d1 => exact cell_one_new _ _ _
      case d2 => intro u hu; simp at hu; subst hu; rfl
      case d3 => unfold maxLen; omega
      case d4 => omega
      case d5 => simp; omega
      intro g cap' w4 a1 a2 a3 _
      have W1 := hidP (HI.out.push a1 ((World.grownBy_alloc wr _ _).trans a2))
      clear a1 a2 a3 hown HI W0
      go_wp2_with fail
      have W2 := hidP (show InvW w1 (.slice (some ⟨g, 0, none⟩) (ws.length + 1) cap') (ig.take k ++ [e] ++ (ig.take k).drop k) w4 by
        have h1 := W1.out
        rw [← HWS.out] at h1 ⊢
        have e0 : (ig.take k).drop k = [] := List.drop_of_length_le (by rw [List.length_take]; omega)
        rw [e0, List.append_nil]
        exact h1)
      clear W1
      go_loopw [10, 12] (fun v i wr => ∃ (k2 : Nat), k ≤ k2 ∧ k2 ≤ n ∧ i = .int .i64 k2 ∧ InvW w1 v (ig.take k ++ [e] ++ (ig.take k2).drop k) wr) (fun _ i _ => n - (intOf i).toNat)
      case atStart => exact ⟨k, Nat.le_refl _, hmn, rfl, W2.out⟩
      case round =>
        clear HWS W2 hsz hwl
        obtain ⟨k2, hk20, hk2, rfl, hinv⟩ := hrel
        have HI := hidP hinv
        have hown := hinv.owns
        have hsz := hinv.below.size
        have hwl : (ig.take k ++ [e] ++ (ig.take k2).drop k).length ≤ 65537 := by
          rw [List.length_append, List.length_append, List.length_drop, List.length_take, List.length_take]
          simp only [List.length_cons, List.length_nil]
          omega
        clear hinv
        by_cases hlt2 : k2 < n
        · obtain ⟨y, hy⟩ : ∃ y, ig[k2]? = some y := ⟨ig[k2]'(by rw [HN.out]; omega), by rw [List.getElem?_eq_getElem]⟩
          obtain ⟨b, off, rfl, hcy⟩ := HC.out k2 y hy
          have hbl : b < w1.heap.size := World.block_lt_of_cell? w1 _ hcy
          have hck : wr.cell? ⟨b, off + k2, none⟩ = some (.string y) := (HI.out.below.cell (p := ⟨b, off + k2, none⟩) hbl).trans hcy
          have HY := hidP hy
          clear hy hcy
          generalize hws : ig.take k ++ [e] ++ (ig.take k2).drop k = ws at *
          have HWS := hidP hws
          clear hws
          go_wp2_with (first
            | (at_builtin; refine wpList_append_lies _ rfl _ _ 22 rfl w1.heap.size 9 i0 (.string ⟨#[]⟩) 1 16 Try.underlying22 hi hz0 hz1 hz2 rfl (by decide) _ _ _ rfl (hown.alloc _) ⟨wr.heap.size, 0, none⟩ 1 1 [.string y] rfl rfl ?f1 ?f2 (by decide) ?f3 ?f4 ?f5 _ rfl ?_))
          case f1 => exact cell_one_new _ _ _
          case f2 => intro u hu; simp at hu; subst hu; rfl
          case f3 => unfold maxLen; omega
          case f4 => omega
          case f5 => simp; omega
          intro g cap' w4 a1 a2 a3 _
          have A1 := hidP a1
          have A2 := hidP ((World.grownBy_alloc wr _ _).trans a2)
          clear a1 a2 a3 hown
          go_wp2_with fail
          go_roundw
          case rel =>
            have hnew := HI.out.push A1.out A2.out
            have e1 : ws ++ [y] = ig.take k ++ [e] ++ (ig.take (k2 + 1)).drop k := by rw [← HWS.out]; exact mid_push HY.out hk20
            rw [e1] at hnew
            exact ⟨k2 + 1, by omega, by omega, by go_num, hnew⟩
          case measure => simp [intOf]; omega
        · have hfull : (ig.take k2).drop k = ig.drop k := by rw [List.take_of_length_le (by rw [HN.out]; omega)]
          rw [hfull] at HI hwl
          have hown' : wr.ownsRow w1.heap.size 9 1 u10 (ig.take k ++ [e] ++ ig.drop k).length ((ig.take k ++ [e] ++ ig.drop k).map Value.string) := HI.out.owns
          obtain ⟨av, cv, hv, _⟩ := row_of_owns hown'
          have HV := hidP hv
          clear hv hown' hown hfull hi hz0 hz1 hz2 hsz HC
          have HNP := hidP (named_put ig k e p)
          have hsy : Hid (∀ (j : Nat) s, (ig.take k ++ [e] ++ ig.drop k)[j]? = some s → s.size ≤ 9223372036854775807) := by
            intro j s hj
            have hmem := List.mem_of_getElem? hj
            rw [List.mem_append, List.mem_append] at hmem
            rcases hmem with (hmem | hmem) | hmem
            · obtain ⟨i, hi⟩ := List.mem_iff_getElem?.1 (List.mem_of_mem_take hmem)
              have := HSM.out.2 i s hi
              omega
            · have : s = e := by simpa using hmem
              subst this
              omega
            · obtain ⟨i, hi⟩ := List.mem_iff_getElem?.1 (List.mem_of_mem_drop hmem)
              have := HSM.out.2 i s hi
              omega
          generalize ig.take k ++ [e] ++ ig.drop k = wi at *
          have hv := HV.out
          subst hv
          generalize hwn : wi.length = wn at *
          have HWN := hidP hwn
          clear hwn HV
          go_wp2_with fail
          have b0 : Below w1.heap.size w1 wr := HI.out.below
          have rowI : Row wr (.slice a n cap) ig := HR.out.below b0
          have rowW : Row wr (.slice av wn cv) wi := row_of_owns HI.out.owns
          have bw : ∀ o1 o2, Below wr.heap.size wr ((wr.alloc o1).alloc o2) := fun o1 o2 => ((Below.refl _ _).alloc (Nat.le_refl _) _).alloc (by simp) _
          refine (ignoring_any (v := .slice a n cap) (ig := ig) (by simp) (rowI.below (bw _ _)) (by rw [HN.out]; omega) (fun j s hj => by have := HSM.out.2 j s hj; omega)).mono ?_
          rintro e' w2 ⟨v1, rfl, hig, hb⟩
          have hig' := hig
          obtain ⟨mb1, qv1, Q1, rfl, _, ⟨aq1, cq1, rfl, _⟩, _⟩ := hig'
          have hb2 : Below (wr.heap.size + 2) ((wr.alloc (.cells #[.slice none 0 0, .slice a n cap, .slice none 0 0, .slice none 0 0, .slice none 0 0, .bool false, .bool false, .bool false, .slice none 0 0, .map none, .map none] 33)).alloc (.cells #[.slice none 0 0, .slice av wn cv, .slice none 0 0, .slice none 0 0, .slice none 0 0, .bool false, .bool false, .bool false, .slice none 0 0, .map none, .map none] 33)) w2 := by simpa using hb
          have hz2 : wr.heap.size + 2 ≤ w2.heap.size := by have := hb2.size; simpa using this
          have hcW : w2.cell? ⟨wr.heap.size + 1, 1, none⟩ = some (.slice av wn cv) := by
            rw [hb2.cell (p := ⟨wr.heap.size + 1, 1, none⟩) (by simp)]
            simp
          have bW2 : Below wr.heap.size wr w2 := (bw _ _).trans (hb2.mono (by omega))
          have BW2 := hidP bW2
          have RI := hidP rowI
          have RW := hidP rowW
          have HIG := hidP hig
          have HCW := hidP hcW
          have B0 := hidP b0
          clear hig hb hb2 b0 rowI rowW bw bW2 hcW
          go_wp2_with fail
          have hcW2 : ∀ o, (w2.alloc o).cell? ⟨wr.heap.size + 1, 1, none⟩ = some (.slice av wn cv) := fun o => (World.cell?_of_block (Below.heap_alloc w2 o (wr.heap.size + 1) (by omega))).trans HCW.out
          refine (ignoring_any (v := .slice av wn cv) (ig := wi) (hcW2 _) (RW.out.below (BW2.out.alloc (by omega) _)) (by rw [HWN.out]; omega) hsy.out).mono ?_
          rintro e' w3 ⟨v2, rfl, hig2, hb3⟩
          have hig2' := hig2
          obtain ⟨mb2, qv2, Q2, rfl, _, ⟨aq2, cq2, rfl, _⟩, _⟩ := hig2'
          have hz3 : w2.heap.size + 1 ≤ w3.heap.size := by have := hb3.size; simpa using this
          have hb3' : Below (w2.heap.size + 1) (w2.alloc (.cells #[.map (some mb1), .slice aq1 Q1.length cq1] 44)) w3 := by simpa using hb3
          have k0 : w3.cell? ⟨w2.heap.size, 0, none⟩ = some (.map (some mb1)) := by rw [hb3'.cell (p := ⟨w2.heap.size, 0, none⟩) (by simp)]; simp
          have k1 : w3.cell? ⟨w2.heap.size, 1, none⟩ = some (.slice aq1 Q1.length cq1) := by rw [hb3'.cell (p := ⟨w2.heap.size, 1, none⟩) (by simp)]; simp
          have k0' : ∀ o, (w3.alloc o).cell? ⟨w2.heap.size, 0, none⟩ = some (.map (some mb1)) := fun o => (World.cell?_of_block (Below.heap_alloc w3 o w2.heap.size (by omega))).trans k0
          have k1' : ∀ o, (w3.alloc o).cell? ⟨w2.heap.size, 1, none⟩ = some (.slice aq1 Q1.length cq1) := fun o => (World.cell?_of_block (Below.heap_alloc w3 o w2.heap.size (by omega))).trans k1
          have B3 := hidP hb3'
          have HIG2 := hidP hig2
          clear hig2 hb3 hb3' k0 k1 hcW2
          go_wp2_with fail
          have ig1 : ∀ o, Ign (w3.alloc o) (.agg #[.map (some mb1), .slice aq1 Q1.length cq1]) ig := fun o => (HIG.out.below (w' := w3.alloc o) (((Below.refl _ _).alloc (Nat.le_refl _) _).trans (B3.out.mono (by omega)) |>.alloc (by omega) _))
          refine (ignores_any (ig1 _) p).mono ?_
          rintro e' w4 ⟨rfl, hb4⟩
          have hz4 : w3.heap.size + 1 ≤ w4.heap.size := by have := hb4.size; simpa using this
          have hb4' : Below (w3.heap.size + 1) (w3.alloc (.cells #[.map (some mb2), .slice aq2 Q2.length cq2] 44)) w4 := by simpa using hb4
          have j0 : w4.cell? ⟨w3.heap.size, 0, none⟩ = some (.map (some mb2)) := by rw [hb4'.cell (p := ⟨w3.heap.size, 0, none⟩) (by simp)]; simp
          have j1 : w4.cell? ⟨w3.heap.size, 1, none⟩ = some (.slice aq2 Q2.length cq2) := by rw [hb4'.cell (p := ⟨w3.heap.size, 1, none⟩) (by simp)]; simp
          have bw4 : Below w3.heap.size w3 w4 := ((Below.refl _ _).alloc (Nat.le_refl _) _).trans (hb4'.mono (by omega))
          have HIG4 := hidP (HIG2.out.below bw4)
          have hball : Below w1.heap.size w1 w4 := by
            have s0 := B0.out.size
            have b1 : Below w1.heap.size w1 w2 := B0.out.trans (BW2.out.mono s0)
            have b2 : Below w1.heap.size w1 w3 := (b1.alloc (by omega) _).trans (B3.out.mono (by omega))
            exact b2.trans (bw4.mono (by omega))
          have HBA := hidP hball
          clear hball hb4 hb4' k0' k1' ig1 HIG HIG2 B3 B0 BW2 bw4
          go_wp2_with fail
          refine (ignores_any HIG4.out p).mono ?_
          rintro e' w5 ⟨rfl, hb5⟩
          have hbe : Below w1.heap.size w1 w5 := HBA.out.trans (hb5.mono (by have := HBA.out.size; omega))
          have HBE := hidP hbe
          clear hbe hb5
          rw [HNP.out]
          generalize named ig p = bb at *
          cases bb with
          | true =>
            go_wp2_with fail
            go_ret
            exact ⟨rfl, HBE.out⟩
          | false =>
            go_wp2_with fail
            refine (names_any e p _ (by omega) (by omega)).mono ?_
            rintro e' w6 ⟨rfl, q, rfl⟩
            go_wp2_with fail
            go_ret
            exact ⟨by simp, below_drewN HBE.out _⟩
end Go.Proofs.Qxb6617078a
