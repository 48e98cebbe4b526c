/-
  THE WALK of Manifest.InputImports (9).
-/
import Derived.Test.Qxb6617078aInput0
namespace Go.Proofs.Qxb6617078a
open Go.RowKit

theorem invI_yes {w1 wr w4 : World} {ig all : List ByteArray} {k : Nat} {iv : Value} {F : List ByteArray} {p : ByteArray} (h : InvI w1 ig all k iv F wr) (hp : all[k]? = some p) (hn : named ig p = false) {g cap : Nat}
    (a1 : w4.ownsRow w1.heap.size 9 1 (.slice (some ⟨g, 0, none⟩) (F.length + 1) cap) (F.length + 1) (F.map Value.string ++ [.string p])) (a2 : Below w1.heap.size w1 w4) :
    InvI w1 ig all (k + 1) (.slice (some ⟨g, 0, none⟩) (F.length + 1) cap) (F ++ [p]) w4 :=
  ⟨by rw [kept_yes hp hn, h.kept], by simpa using a1, a2⟩
theorem invI_no {w1 wr w4 : World} {ig all : List ByteArray} {k : Nat} {iv : Value} {F : List ByteArray} {p : ByteArray} (h : InvI w1 ig all k iv F wr) (hp : all[k]? = some p) (hn : named ig p = true) (a2 : Below wr.heap.size wr w4) :
    InvI w1 ig all (k + 1) iv F w4 :=
  ⟨by rw [kept_no hp hn, h.kept], own_below h.owns a2, h.below.trans (a2.mono h.below.size)⟩

theorem own_base {w : World} {b1 b2 : Nat} {v : Value} {n : Nat} {xs : List Value} (h : w.ownsRow b1 9 1 v n xs) (hb : b2 ≤ b1) : w.ownsRow b2 9 1 v n xs := by
  obtain ⟨h0, h1⟩ := h
  refine ⟨h0, ?_⟩
  rcases h1 with ⟨hv, hn⟩ | ⟨g, cap, cur, hv, hbase, h2⟩
  · exact .inl ⟨hv, hn⟩
  · exact .inr ⟨g, cap, cur, hv, Nat.le_trans hb hbase, h2⟩

set_option maxRecDepth 100000 in
set_option maxHeartbeats 4000000 in
theorem input_any {w : World} {mk : Nat} {gv : Value} {ar ai : Option Addr} {cr ci : Nat} {reqs ig imps : List ByteArray} (hcr : w.cell? ⟨mk, 0, none⟩ = some (.slice ar reqs.length cr)) (hcg : w.cell? ⟨mk, 1, none⟩ = some gv)
    (rowR : Row w (.slice ar reqs.length cr) reqs) (rowG : Row w gv ig) (rowI : Row w (.slice ai imps.length ci) imps)
    (hl : ig.length ≤ 1048577) (hs : ∀ (j : Nat) s, ig[j]? = some s → s.size ≤ 9223372036854775807) (hl2 : imps.length + reqs.length ≤ 4194304) :
    Calls Try.prog 9 #[.pointer (some ⟨mk, 0, none⟩), .slice ai imps.length ci] w fun e w' => Owned w (outB ig imps reqs) e w' := by
  have hmk : mk < w.heap.size := World.block_lt_of_cell? w _ hcr
  have RR := hidP rowR
  have RI := hidP rowI
  have HIN := hidP (ignoring_any hcg rowG hl hs)
  have HCR := hidP hcr
  clear hs rowG rowR rowI hcg hcr hl
  generalize hn1 : imps.length = n1 at *
  generalize hn2 : reqs.length = n2 at *
  have N1 := hidP hn1
  have N2 := hidP hn2
  clear hn1 hn2
  go_enter Try.func9, Try.ntmps9
  go_wp2_with fail
  refine HIN.out.mono ?_
  rintro e w1 ⟨v1, rfl, hig, hb⟩
  have hig' := hig
  obtain ⟨mb1, qv1, Q1, rfl, _, ⟨aq1, cq1, rfl, _⟩, _⟩ := hig'
  have hz1 := hb.size
  have hcr1 : w1.cell? ⟨mk, 0, none⟩ = some (.slice ar n2 cr) := (hb.cell (p := ⟨mk, 0, none⟩) hmk).trans HCR.out
  have hcr2 : ∀ o, (w1.alloc o).cell? ⟨mk, 0, none⟩ = some (.slice ar n2 cr) := fun o => (World.cell?_of_block (Below.heap_alloc w1 o mk (by omega))).trans hcr1
  have HIG := hidP hig
  have HB := hidP hb
  clear hig hb hcr1 HIN
  go_wp2_with fail
  have bw : ∀ o1 o2, Below w1.heap.size w1 ((w1.alloc o1).alloc o2) := fun o1 o2 => ((Below.refl _ _).alloc (Nat.le_refl _) _).alloc (by simp) _
  have hcon := concat_any (w := (w1.alloc (.cells #[.map (some mb1), .slice aq1 Q1.length cq1] 44)).alloc (.cells #[.slice ai n1 ci, .slice ar n2 cr] 22)) (sb := w1.heap.size + 1) (aa := ai) (ab := ar) (ca := ci) (cb := cr) (xs := imps) (ys := reqs) (by rw [N1.out]; simp) (by rw [N2.out]; simp) (by rw [N1.out]; exact (RI.out.below HB.out).below (bw _ _)) (by rw [N2.out]; exact (RR.out.below HB.out).below (bw _ _)) (by rw [N1.out, N2.out]; omega)
  refine hcon.mono ?_
  clear hcon
  rintro e w3 ⟨v3, rfl, hown3, hb3⟩
  have hb3' : Below (w1.heap.size + 2) ((w1.alloc (.cells #[.map (some mb1), .slice aq1 Q1.length cq1] 44)).alloc (.cells #[.slice ai n1 ci, .slice ar n2 cr] 22)) w3 := by simpa using hb3
  have hz3 : w1.heap.size + 2 ≤ w3.heap.size := by have := hb3'.size; simpa using this
  have k0 : w3.cell? ⟨w1.heap.size, 0, none⟩ = some (.map (some mb1)) := by rw [hb3'.cell (p := ⟨w1.heap.size, 0, none⟩) (by simp)]; simp
  have k1 : w3.cell? ⟨w1.heap.size, 1, none⟩ = some (.slice aq1 Q1.length cq1) := by rw [hb3'.cell (p := ⟨w1.heap.size, 1, none⟩) (by simp)]; simp
  have hbW : Below w1.heap.size w1 w3 := (bw _ _).trans (hb3'.mono (by omega))
  have hig3 := HIG.out.below hbW
  have hall := row_of_owns hown3
  obtain ⟨a3, c3, rfl, hc3⟩ := hall
  have hal : (imps ++ reqs).length = n1 + n2 := by rw [List.length_append, N1.out, N2.out]
  have HOUT : Hid (outB ig imps reqs = compactB (sortB (keptB ig (imps ++ reqs)))) := rfl
  have HB3 := hidP (show Below w.heap.size w w3 from HB.out.trans (hbW.mono hz1))
  have hzz : w.heap.size ≤ w3.heap.size := by omega
  generalize imps ++ reqs = all at *
  generalize hn : all.length = n at *
  have HN := hidP hn
  have HC := hidP hc3
  have HIG3 := hidP hig3
  have hvb : w1.heap.size < w3.heap.size := by omega
  generalize w1.heap.size = vb at *
  have hn0 : n ≤ 4194304 := by omega
  clear hc3 hig3 hn hbW hb3 hb3' bw hcr2 HB HIG hown3 hal N1 N2 RR RI HCR hz3 hz1 hmk hl2
  go_wp2_with fail
  go_loopw [6, 19] (fun v i wr => ∃ (k : Nat) (F : List ByteArray), k ≤ n ∧ i = .int .i64 k ∧ InvI w3 ig all k v F wr) (fun _ i _ => n - (intOf i).toNat)
  case atStart => exact ⟨0, [], Nat.zero_le _, rfl, rfl, World.ownsRow_nil _ _ _ _, Below.refl _ _⟩
  case round =>
    obtain ⟨k, F, hk, rfl, hinv⟩ := hrel
    have HI := hidP hinv
    have hFl : F.length ≤ 4194304 := by
      rw [hinv.kept]
      have h1 : (keptB ig (all.take k)).length ≤ (all.take k).length := List.length_filter_le _ _
      rw [List.length_take] at h1
      omega
    have hsz := hinv.below.size
    have k0' : wr.cell? ⟨vb, 0, none⟩ = some (.map (some mb1)) := (hinv.below.cell (p := ⟨vb, 0, none⟩) hvb).trans k0
    have k1' : wr.cell? ⟨vb, 1, none⟩ = some (.slice aq1 Q1.length cq1) := (hinv.below.cell (p := ⟨vb, 1, none⟩) hvb).trans k1
    have HGR := hidP (HIG3.out.below hinv.below)
    clear hinv k0 k1
    by_cases hlt : k < n
    · obtain ⟨p, hp⟩ : ∃ p, all[k]? = some p := ⟨all[k]'(by rw [HN.out]; exact hlt), by rw [List.getElem?_eq_getElem]⟩
      obtain ⟨b, off, rfl, hcy⟩ := HC.out k p hp
      have hbl : b < w3.heap.size := World.block_lt_of_cell? w3 _ hcy
      have hck : wr.cell? ⟨b, off + k, none⟩ = some (.string p) := (HI.out.below.cell (p := ⟨b, off + k, none⟩) hbl).trans hcy
      have HP := hidP hp
      clear hp hcy
      go_wp2_with fail
      refine (ignores_any HGR.out p).mono ?_
      rintro e w4 ⟨rfl, hb4⟩
      cases hnm : named ig p with
      | true =>
        have HNM := hidP hnm
        have HB4 := hidP hb4
        clear hnm hb4
        go_wp2_with fail
        go_roundw
        case rel => exact ⟨k + 1, F, by omega, by go_num, invI_no HI.out HP.out HNM.out HB4.out⟩
        case measure => simp [intOf]; omega
      | false =>
        have HNM := hidP hnm
        have hown := own_below HI.out.owns hb4
        have hz4 := hb4.size
        have HB4 := hidP hb4
        clear hnm hb4
        obtain ⟨i0, hi, hz0, hz1, hz2⟩ := info_parts info9
        go_wp2_with (first
          | (at_builtin; refine wpList_append_lies _ rfl _ _ 22 rfl w3.heap.size 9 i0 (.string ⟨#[]⟩) 1 16 Try.underlying22 hi hz0 hz1 hz2 rfl (by decide) _ F.length (F.map Value.string) rfl (hown.alloc _) ⟨w4.heap.size, 0, none⟩ 1 1 [.string p] rfl rfl ?c1 ?c2 (by decide) ?c3 ?c4 ?c5 _ rfl ?_))
        case c1 => exact cell_one_new _ _ _
        case c2 => intro u hu; simp at hu; subst hu; rfl
        case c3 => unfold maxLen; omega
        case c4 => omega
        case c5 => simp; omega
        intro g cap' w5 a1 a2 a3' _
        have A1 := hidP a1
        have A2 := hidP (show Below w3.heap.size w3 w5 from (HI.out.below.trans (HB4.out.mono hsz)).grown ((World.grownBy_alloc w4 _ _).trans a2) (by omega) (fun j hj => (hown.lt j hj).1))
        clear a1 a2 a3' hown hi hz0 hz1 hz2
        go_wp2_with fail
        go_roundw
        case rel => exact ⟨k + 1, F ++ [p], by omega, by go_num, invI_yes HI.out HP.out HNM.out A1.out A2.out⟩
        case measure => simp [intOf]; omega
    · have HF := hidP (show F = keptB ig all by have h1 := HI.out.kept; rw [List.take_of_length_le (by rw [HN.out]; omega)] at h1; exact h1)
      go_wp2_with fail
      refine (sort_own HI.out.owns (by omega)).mono ?_
      rintro en w4 ⟨rfl, a1, a2⟩
      have ho4 : w4.ownsRow w3.heap.size 9 1 u6 (sortB F).length ((sortB F).map Value.string) := by rw [sortB_length]; exact a1
      have HO4 := hidP ho4
      have HB4 := hidP (HI.out.below.grown a2 hsz (fun j hj => (HI.out.owns.lt j hj).1))
      clear a1 a2 ho4
      go_wp2_with fail
      refine (compact_own HO4.out (sortB_sorted F) (by rw [sortB_length]; omega)).mono ?_
      rintro en w5 ⟨v5, rfl, a1, a2⟩
      have A1 := hidP a1
      have HB5 := hidP (HB4.out.grown a2 HB4.out.size (fun j hj => (HO4.out.lt j hj).1))
      clear a1 a2
      go_wp2_with fail
      go_ret
      exact ⟨_, rfl, by rw [HOUT.out, ← HF.out]; exact own_base A1.out hzz, HB3.out.trans (HB5.out.mono hzz)⟩
end Go.Proofs.Qxb6617078a
