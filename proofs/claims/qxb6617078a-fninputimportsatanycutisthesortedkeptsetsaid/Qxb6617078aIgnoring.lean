/-
  THE WALK of Manifest.Ignoring (16).
-/
import Derived.Test.Qxb6617078aSort
namespace Go.Proofs.Qxb6617078a
open Go.RowKit

theorem info9 : (Try.prog.info? 9).map (fun i => (i.zero, i.size, i.bytes)) = some (some (.string ⟨#[]⟩), 1, 16) := by kernel_rfl

/-- strings.CutSuffix(e, "*"). -/
theorem cut_any (e : ByteArray) (w : World) (he : e.size ≤ 9223372036854775807) (hs : Pl.star (D e) = true) :
    Calls Try.prog 27 #[.string e, .string ⟨#[42]⟩] w fun en w' => en = .returned (.tuple #[.string (S ((D e).take ((D e).length - 1))), .bool true]) ∧ w' = w := by
  refine (Try.strings_CutSuffix e ⟨#[42]⟩ w he).mono fun en w' ⟨h1, h2⟩ => ⟨?_, h2⟩
  have h3 : Lib.hasSuffix e.data.toList [42] = true := hs
  rw [h1]
  show Ending.returned (.tuple #[.string ⟨(Lib.trimSuffix e.data.toList [42]).toArray⟩, .bool (Lib.hasSuffix e.data.toList [42])]) = _
  rw [h3]
  have h4 : Lib.trimSuffix e.data.toList [42] = (D e).take ((D e).length - 1) := by
    unfold Lib.trimSuffix
    rw [h3, if_pos rfl]
    rfl
  rw [h4]
  rfl
theorem cut_none (e : ByteArray) (w : World) (he : e.size ≤ 9223372036854775807) (hs : Pl.star (D e) = false) :
    Calls Try.prog 27 #[.string e, .string ⟨#[42]⟩] w fun en w' => en = .returned (.tuple #[.string e, .bool false]) ∧ w' = w := by
  refine (Try.strings_CutSuffix e ⟨#[42]⟩ w he).mono fun en w' ⟨h1, h2⟩ => ⟨?_, h2⟩
  have h3 : Lib.hasSuffix e.data.toList [42] = false := hs
  rw [h1]
  show Ending.returned (.tuple #[.string ⟨(Lib.trimSuffix e.data.toList [42]).toArray⟩, .bool (Lib.hasSuffix e.data.toList [42])]) = _
  rw [h3]
  have h4 : Lib.trimSuffix e.data.toList [42] = D e := by
    unfold Lib.trimSuffix
    rw [h3]
    rfl
  rw [h4]
  show Ending.returned (.tuple #[.string (S (D e)), .bool false]) = _
  rw [S_D]

/-- At the end. -/
theorem ign_done {w wr : World} {ig T Q : List ByteArray} {pv qv : Value} {k : Nat} (h : Inv2 w ig T pv k qv Q wr) (hk : T.length ≤ k) (hS : Pl.Sorted (T.map D)) (hm : ∀ s, s ∈ T.map D ↔ s ∈ Pl.prefs (ig.map D)) (hl : Q.length < 4611686018427387904) :
    Ign ((wr.setCell ⟨w.heap.size, 0, none⟩ (.map (some (w.heap.size + 1)))).setCell ⟨w.heap.size, 1, none⟩ qv) (.agg #[.map (some (w.heap.size + 1)), qv]) ig ∧
      Below w.heap.size w ((wr.setCell ⟨w.heap.size, 0, none⟩ (.map (some (w.heap.size + 1)))).setCell ⟨w.heap.size, 1, none⟩ qv) := by
  have gs : ∀ (x : World) (i : Nat) (u : Value), x.grownBy (x.setCell ⟨w.heap.size, i, none⟩ u) (some w.heap.size) := fun x i u => ⟨rfl, rfl, rfl, by simp [World.setCell], fun j _ hj => Below.heap_setCell x _ _ j (fun e => hj (by rw [e]))⟩
  have hne : qv.ownBlock = none ∨ qv.ownBlock ≠ some w.heap.size := .inr (fun x => by have := (h.owns.lt _ x).1; omega)
  have hQ : Q.map D = Pl.prune (T.map D) := by
    rw [h.pruned, List.take_of_length_le hk]
  refine ⟨⟨w.heap.size + 1, qv, Q, rfl, ?_, ?_, ?_, ?_, hl⟩, ?_⟩
  · exact (h.isMap.setCell (by simp) _).setCell (by simp) _
  · exact row_of_owns ((h.owns.kept (gs _ _ _) hne).kept (gs _ _ _) hne)
  · rw [hQ]
    exact (Pl.prune_good _ hS).free
  · intro p
    rw [hQ]
    exact Pl.named_pruned hS hm
  · exact (h.below.setCell (Nat.le_refl _) _).setCell (Nat.le_refl _) _

/-- What comes back. -/
def Made (w : World) (ig : List ByteArray) (e : Ending) (w' : World) : Prop := ∃ v, e = .returned v ∧ Ign w' v ig ∧ Below w.heap.size w w'

set_option maxRecDepth 100000 in
set_option maxHeartbeats 2000000 in
theorem ignoring_any {w : World} {mk : Nat} {v : Value} {ig : List ByteArray} (hv : w.cell? ⟨mk, 1, none⟩ = some v) (h : Row w v ig) (hl : ig.length ≤ 1048577) (hs : ∀ (j : Nat) s, ig[j]? = some s → s.size ≤ 9223372036854775807) :
    Calls Try.prog 16 #[.pointer (some ⟨mk, 0, none⟩)] w fun e w' => Made w ig e w' := by
  obtain ⟨a, cap, rfl, hc⟩ := h
  have hmk : mk < w.heap.size := World.block_lt_of_cell? w _ hv
  have hv' : ∀ o1 o2 o3, (((w.alloc o1).alloc o2).alloc o3).cell? ⟨mk, 1, none⟩ = some (.slice a ig.length cap) := fun o1 o2 o3 =>
    ((((Below.refl mk.succ w).alloc hmk o1).alloc (by simp; omega) o2).alloc (by simp; omega) o3).cell (p := ⟨mk, 1, none⟩) (Nat.lt_succ_self _) |>.trans hv
  have HC := hidP hc
  have HS := hidP hs
  have hmm := @run_makeMap Try.prog
  clear hc hs hv
  generalize hn : ig.length = n at *
  have HN := hidP hn
  clear hn
  go_enter Try.func16, Try.ntmps16
  go_wp2_with fail
  go_loopw [4, 19] (fun pv i wr => ∃ (k : Nat) (P : List ByteArray), k ≤ n ∧ i = .int .i64 k ∧ Inv1 w ig k pv P wr) (fun _ i _ => n - (intOf i).toNat)
  case atStart => exact ⟨0, [], Nat.zero_le _, rfl, inv1_start w ig _ rfl⟩
  case round =>
    obtain ⟨k, P, hk, rfl, hinv⟩ := hrel
    have HI := hidP hinv
    have hPl : P.length ≤ 1048577 := by have := hinv.le; omega
    have hsz := hinv.size
    clear hinv
    by_cases hlt : k < n
    · obtain ⟨e, he⟩ : ∃ e, ig[k]? = some e := ⟨ig[k]'(by rw [HN.out]; exact hlt), by rw [List.getElem?_eq_getElem]⟩
      obtain ⟨b, off, rfl, hcy⟩ := HC.out k e he
      have hbl : b < w.heap.size := World.block_lt_of_cell? w _ hcy
      have hck : wr.cell? ⟨b, off + k, none⟩ = some (.string e) := (HI.out.below.cell (p := ⟨b, off + k, none⟩) hbl).trans hcy
      have hse := HS.out k e he
      have HE := hidP he
      clear he hcy
      cases hst : Pl.star (D e) with
      | true =>
        have HST := hidP hst
        clear hst
        go_wp2_with fail
        refine (cut_any _ _ hse HST.out).mono ?_
        rintro en w1 ⟨rfl, rfl⟩
        have hD := D_S ((D e).take ((D e).length - 1))
        generalize S ((D e).take ((D e).length - 1)) = t at *
        have HD := hidP hD
        clear hD
        obtain ⟨i0, hi, hz0, hz1, hz2⟩ := info_parts info9
        have hown := HI.out.owns
        go_wp2_with (first
          | (at_builtin; refine wpList_append_lies _ rfl _ _ 22 rfl (w.heap.size + 3) 9 i0 (.string ⟨#[]⟩) 1 16 Try.underlying22 hi hz0 hz1 hz2 rfl (by decide) _ P.length (P.map Value.string) rfl (hown.alloc _) ⟨w1.heap.size, 0, none⟩ 1 1 [.string t] rfl rfl ?c1 ?c2 (by decide) ?c3 ?c4 ?c5 _ rfl ?_))
        case c1 => exact cell_one_new _ _ _
        case c2 => intro u hu; simp at hu; subst hu; rfl
        case c3 => unfold maxLen; omega
        case c4 => omega
        case c5 => simp; omega
        intro g cap' w4 a1 a2 a3 _
        have A1 := hidP a1
        have A2 := hidP ((World.grownBy_alloc w1 _ _).trans a2)
        clear a1 a2 a3 hown hi hz0 hz1 hz2
        go_wp2_with fail
        go_roundw
        case rel => exact ⟨k + 1, P ++ [t], by omega, by go_num, inv1_star HI.out HE.out HST.out HD.out A1.out A2.out⟩
        case measure => simp [intOf]; omega
      | false =>
        have HST := hidP hst
        clear hst
        go_wp2_with fail
        refine (cut_none _ _ hse HST.out).mono ?_
        rintro en w1 ⟨rfl, rfl⟩
        have cm : w1.cell? ⟨w.heap.size + 2, 0, none⟩ = some (.map (some (w.heap.size + 1))) := by simp [World.cell?, HI.out.var]
        have hmap := HI.out.isMap
        go_wp2_with (first
          | (at_mapUpdate; refine SM.wp_update _ rfl _ _ _ 42 rfl 9 4 Try.underlying9 Try.underlying42 (w.heap.size + 1) (exFn (ig.take k)) rfl hmap e _ rfl rfl ?_))
        intro w2 m3 hg3 _
        have M3 := hidP m3
        have HG3 := hidP hg3
        clear m3 hg3 hmap
        go_wp2_with fail
        go_roundw
        case rel => exact ⟨k + 1, P, by omega, by go_num, inv1_plain HI.out HE.out HST.out M3.out HG3.out⟩
        case measure => simp [intOf]; omega
    · have HK := hidP (show k = ig.length by rw [HN.out]; omega)
      have HPX := hidP (show P.map D = Pl.prefs (ig.map D) by have h1 := HI.out.prefs; rw [HK.out, List.take_length] at h1; exact h1)
      go_wp2_with fail
      refine (sort_own HI.out.owns (by omega)).mono ?_
      rintro en w1 ⟨rfl, a1, a2⟩
      have hi2 := inv2_start (HK.out ▸ HI.out) a1 a2
      obtain ⟨ap, cp, hpv, _⟩ := row_of_owns hi2.ownsP
      rw [sortB_length] at hpv
      subst hpv
      have hTl : (sortB P).length = P.length := sortB_length P
      have hTD := sortB_sorted P
      have hTM := sortB_mem P
      generalize sortB P = T at *
      have HI2 := hidP hi2
      have HT := hidP hTl
      have HTD := hidP hTD
      have HTM := hidP hTM
      clear hi2 a1 a2 hTl hTD hTM hk hlt hsz
      generalize hm : P.length = m at *
      have HM := hidP hm
      clear hm
      go_wp2_with fail
      go_loopw [41] (fun i wr => ∃ (k : Nat) (qv : Value) (Q : List ByteArray), k ≤ m ∧ i = .int .i64 k ∧ Inv2 w ig T (.slice ap m cp) k qv Q wr) (fun i _ => m - (intOf i).toNat)
      case atStart => exact ⟨0, _, _, Nat.zero_le _, rfl, HI2.out⟩
      case round =>
        obtain ⟨k2, qv, Q, hk2, rfl, hinv⟩ := hrel
        obtain ⟨aq, cq, rfl, hqc⟩ := row_of_owns hinv.owns
        have J := hidP hinv
        have HQC := hidP hqc
        have hQl : Q.length ≤ 1048577 := by have := hinv.le; omega
        have hsz := hinv.size
        have cv0 : wr.cell? ⟨w.heap.size + 2, 0, none⟩ = some (.map (some (w.heap.size + 1))) := by simp [World.cell?, hinv.var]
        have cv1 : wr.cell? ⟨w.heap.size + 2, 1, none⟩ = some (.slice aq Q.length cq) := by simp [World.cell?, hinv.var]
        have fv1 : wr.frozen? ⟨w.heap.size + 2, 1, none⟩ = false := by simp [World.frozen?, hinv.var]
        have hown := hinv.owns
        clear hinv hqc
        by_cases hlt2 : k2 < m
        · have hTk : k2 < T.length := by have := HT.out; have := HM.out; omega
          obtain ⟨s, hsT⟩ : ∃ s, T[k2]? = some s := ⟨_, List.getElem?_eq_getElem hTk⟩
          obtain ⟨ap', cp', hpv', hpc⟩ := row_of_owns J.out.ownsP
          obtain ⟨b2, off2, hap, hcs⟩ := hpc k2 s hsT
          cases hpv'
          subst hap
          have HST := hidP hsT
          clear hsT hpc
          by_cases hQ0 : Q = []
          · subst hQ0
            have HSTEP := hidP (show Pl.step (([] : List ByteArray).map D) (D s) = ([] : List ByteArray).map D ++ [D s] from Pl.step_none rfl)
            have hown0 : wr.ownsRow (w.heap.size + 3) 9 1 (.slice aq 0 cq) 0 [] := hown
            have cv10 : wr.cell? ⟨w.heap.size + 2, 1, none⟩ = some (.slice aq 0 cq) := cv1
            clear hown cv1 hQl
            obtain ⟨i0, hi, hz0, hz1, hz2⟩ := info_parts info9
            go_wp2_with (first
              | (at_builtin; refine wpList_append_lies _ rfl _ _ 22 rfl (w.heap.size + 3) 9 i0 (.string ⟨#[]⟩) 1 16 Try.underlying22 hi hz0 hz1 hz2 rfl (by decide) (.slice aq 0 cq) 0 [] rfl (hown0.alloc _) ⟨wr.heap.size, 0, none⟩ 1 1 [.string s] rfl rfl ?d1 ?d2 (by decide) ?d3 ?d4 ?d5 _ rfl ?_))
            case d3 => decide
            case d5 => omega
            case d2 => rfl
            intro g cap' w4 a1 a2 a3 _
            have hg4 := (World.grownBy_alloc wr _ _).trans a2
            have hfar : some (w.heap.size + 2) ≠ (Value.slice aq 0 cq).ownBlock := fun x => by have := (hown0.lt _ x.symm).1; omega
            have cv1' : w4.cell? ⟨w.heap.size + 2, 1, none⟩ = some (.slice aq 0 cq) := hg4.cell cv10 hfar
            have fv1' : w4.frozen? ⟨w.heap.size + 2, 1, none⟩ = false := (hg4.frozen_far ⟨w.heap.size + 2, 1, none⟩ (by simp; omega) hfar).trans fv1
            have A1 := hidP a1
            have A2 := hidP hg4
            have A3 := hidP a3
            clear a1 a2 a3 hg4 hown0 hi hz0 hz1 hz2 hfar
            go_wp2_with fail
            go_roundw
            case rel => exact ⟨k2 + 1, _, [s], by omega, by go_num, inv2_keep J.out HST.out HSTEP.out (by omega) A1.out A2.out A3.out rfl⟩
            case measure => simp [intOf]; omega
          · have hQp : 0 < Q.length := List.length_pos_iff.2 hQ0
            have hb0 : ((Q.length : Int) == 0) = false := by rw [beq_eq_false_iff_ne]; omega
            obtain ⟨j, hj⟩ : ∃ j, Q.length = j + 1 := ⟨Q.length - 1, by omega⟩
            obtain ⟨l, hl⟩ : ∃ l, Q[j]? = some l := ⟨_, List.getElem?_eq_getElem (by omega)⟩
            have hlast : Q.getLast? = some l := by rw [List.getLast?_eq_getElem?, hj]; exact hl
            obtain ⟨b3, off3, hap3, hcl⟩ := HQC.out j l hl
            subst hap3
            have hQj : ((Q.length : Nat) : Int) = (j : Int) + 1 := by omega
            have HL := hidP hlast
            clear hlast hl hj hQ0 hQp
            go_wp2_with fail
            refine (Try.strings_HasPrefix _ _ _).mono ?_
            rintro en w5 ⟨rfl, rfl⟩
            cases hpf : Lib.hasPrefix s.data.toList l.data.toList with
            | true =>
              have HPF := hidP hpf
              clear hpf
              go_wp2_with fail
              go_roundw
              case rel => exact ⟨k2 + 1, _, Q, by omega, by go_num, inv2_drop J.out HST.out HL.out HPF.out⟩
              case measure => simp [intOf]; omega
            | false =>
              have HSTEP := hidP (show Pl.step (Q.map D) (D s) = Q.map D ++ [D s] from Pl.step_keep (l := D l) (by rw [List.getLast?_map, HL.out]; rfl) hpf)
              clear hpf hQj hb0 hcl
              obtain ⟨i0, hi, hz0, hz1, hz2⟩ := info_parts info9
              go_wp2_with (first
                | (at_builtin; refine wpList_append_lies _ rfl _ _ 22 rfl (w.heap.size + 3) 9 i0 (.string ⟨#[]⟩) 1 16 Try.underlying22 hi hz0 hz1 hz2 rfl (by decide) (.slice (some ⟨b3, off3, none⟩) Q.length cq) Q.length (Q.map Value.string) rfl (hown.alloc _) ⟨w5.heap.size, 0, none⟩ 1 1 [.string s] rfl rfl ?e1 ?e2 (by decide) ?e3 ?e4 ?e5 _ rfl ?_))
              case e1 => exact cell_one_new _ _ _
              case e2 => intro u hu; simp at hu; subst hu; rfl
              case e3 => unfold maxLen; omega
              case e4 => omega
              case e5 => simp; omega
              intro g cap' w4 a1 a2 a3 _
              have hg4 := (World.grownBy_alloc w5 _ _).trans a2
              have hfar : some (w.heap.size + 2) ≠ (Value.slice (some ⟨b3, off3, none⟩) Q.length cq).ownBlock := fun x => by have := (hown.lt _ x.symm).1; omega
              have cv1' : w4.cell? ⟨w.heap.size + 2, 1, none⟩ = some (.slice (some ⟨b3, off3, none⟩) Q.length cq) := hg4.cell cv1 hfar
              have fv1' : w4.frozen? ⟨w.heap.size + 2, 1, none⟩ = false := (hg4.frozen_far ⟨w.heap.size + 2, 1, none⟩ (by simp; omega) hfar).trans fv1
              have A1 := hidP a1
              have A2 := hidP hg4
              have A3 := hidP a3
              clear a1 a2 a3 hg4 hown hi hz0 hz1 hz2 hfar
              go_wp2_with fail
              go_roundw
              case rel => exact ⟨k2 + 1, _, Q ++ [s], by omega, by go_num, inv2_keep J.out HST.out HSTEP.out (by omega) A1.out A2.out A3.out rfl⟩
              case measure => simp [intOf]; omega
        · have cr0 : wr.cell? ⟨w.heap.size, 0, none⟩ = some (.map none) := by simp [World.cell?, J.out.res]
          have cr1 : wr.cell? ⟨w.heap.size, 1, none⟩ = some (.slice none 0 0) := by simp [World.cell?, J.out.res]
          have fr : ∀ i, wr.frozen? ⟨w.heap.size, i, none⟩ = false := fun i => by simp [World.frozen?, J.out.res]
          have hfin : Ign ((wr.setCell ⟨w.heap.size, 0, none⟩ (.map (some (w.heap.size + 1)))).setCell ⟨w.heap.size, 1, none⟩ (.slice aq Q.length cq)) (.agg #[.map (some (w.heap.size + 1)), .slice aq Q.length cq]) ig ∧
              Below w.heap.size w ((wr.setCell ⟨w.heap.size, 0, none⟩ (.map (some (w.heap.size + 1)))).setCell ⟨w.heap.size, 1, none⟩ (.slice aq Q.length cq)) :=
            ign_done J.out (by have := HT.out; have := HM.out; omega) HTD.out (fun s => (HTM.out s).trans (by rw [HPX.out])) (by omega)
          have HF := hidP hfin
          clear hfin
          go_wp2_with fail
          exact bodyPost_ret (v := .agg #[.map (some (w.heap.size + 1)), .slice aq Q.length cq]) (by simp [results, Try.results16, go_sem, cr0, cr1]) rfl ⟨_, rfl, HF.out⟩
end Go.Proofs.Qxb6617078a
