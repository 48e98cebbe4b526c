/-
  THE WALK of the law FnPeerPlacesFirstMet (function 5).
-/
import Derived.Test.Qxb6616555aPeerInv
namespace Go.Proofs.Qxb6616555a
open Go.RowKit

theorem own_at {base : Nat} {w : World} {v : Value} {ds : List ByteArray} (h : w.ownsRow base 9 1 v ds.length (ds.map Value.string)) {i : Nat} {s : ByteArray} (hs : ds[i]? = some s) : ∃ g cap, v = .slice (some ⟨g, 0, none⟩) ds.length cap ∧ w.cell? ⟨g, i, none⟩ = some (.string s) := by
  rcases row_of_owns h with ⟨a, c, _, rfl⟩ | ⟨b, off, cap, hv, hc⟩
  · simp at hs
  · have hlen : 0 < ds.length := by
      rcases Nat.eq_zero_or_pos ds.length with h0 | h0
      · rw [List.length_eq_zero_iff.1 h0] at hs; simp at hs
      · exact h0
    obtain ⟨g, cap', hv', _⟩ := h.form hlen
    rw [hv'] at hv
    cases hv
    exact ⟨_, _, hv', by simpa using hc i s hs⟩

theorem Bld.drewN {base nb mb : Nat} {w : World} {v : Value} {ds : List ByteArray} (h : Bld base nb mb w v ds) (n : Nat) : Bld base nb mb (w.drewN n) v ds :=
  ⟨h.nbLt, h.mbLt, h.le, h.ne, h.cellIds, h.frz, h.cellIdx, h.owns, h.isMap⟩

set_option maxHeartbeats 1000000 in
theorem law5_main (a : Option Addr) (cap : Nat) (ids : List ByteArray) (w : World) (hl : ids.length ≤ 9223372036854775807)
    (hby : Calls Try.prog 13 #[.slice a ids.length cap] w fun e w' => Says (Small ids) e ∧ w' = w)
    (hc : ∀ (i : Nat) t, ids[i]? = some t → ∃ b off, a = some ⟨b, off, none⟩ ∧ w.cell? ⟨b, off + i, none⟩ = some (.string t)) :
    Calls Try.prog 5 #[.slice a ids.length cap] w fun e w' => e = .returned (.bool true) ∧ Below w.heap.size w w' := by
  have HB := hidP hby
  have HC := hidP hc
  clear hby hc
  generalize hn : ids.length = n at *
  have HN := hidP hn
  clear hn
  go_enter Try.func5, Try.ntmps5
  go_wp2_with fail
  refine HB.out.mono ?_
  rintro e w0 ⟨⟨r, rfl, hr⟩, rfl⟩
  cases r with
  | false =>
    go_wp2_with fail
    go_ret
    exact ⟨rfl, Below.refl _ _⟩
  | true =>
  obtain ⟨_, hs⟩ := hr rfl
  have HS := hidP hs
  clear hr hs
  by_cases hl4 : 4096 < n
  · go_wp2_with fail
    go_ret
    exact ⟨rfl, Below.refl _ _⟩
  have hl5 : n ≤ 4096 := by omega
  clear hl4 hl
  go_wp2_with fail
  go_loop [3, 4] (fun z i => ∃ (k : Nat) (t : Int), k ≤ n ∧ i = .int .i64 k ∧ z = .int .i64 t ∧ 0 ≤ t ∧ t ≤ 1048576) (fun _ i => n - (intOf i).toNat)
  case atStart => exact ⟨0, 8 * n, Nat.zero_le _, rfl, by simp, by omega, by omega⟩
  case round =>
    obtain ⟨k, t, hk, rfl, rfl, ht0, ht1⟩ := hrel
    by_cases hlt : k < n
    · obtain ⟨y, hy⟩ : ∃ y, ids[k]? = some y := ⟨ids[k]'(by rw [HN.out]; exact hlt), by rw [List.getElem?_eq_getElem]⟩
      obtain ⟨b, off, rfl, hck⟩ := HC.out k y hy
      have hsx := HS.out k y hy
      clear hy
      by_cases h2 : 1048576 < t + y.size
      · go_wp2_with fail
        go_ret
        exact ⟨rfl, Below.refl _ _⟩
      · go_wp2_with fail
        go_round
        case rel => exact ⟨k + 1, t + y.size, by omega, by go_num, rfl, by omega, by omega⟩
        case measure => simp [intOf]; omega
    · clear ht0 ht1
      go_wp2_with fail
      refine (new_any _).mono ?_
      rintro e w1 ⟨rfl, rfl⟩
      go_wp2_with fail
      go_loopw [6, 7] (fun d i wr => ∃ (k : Nat), k ≤ n ∧ i = .int .i64 k ∧ Inv w0 ids k d wr) (fun _ i _ => n - (intOf i).toNat)
      case atStart => exact ⟨0, Nat.zero_le _, rfl, inv_start _ _⟩
      case round =>
        obtain ⟨k2, hk2, rfl, hinv⟩ := hrel
        have HI := hidP hinv
        obtain ⟨vb, h1, h2, h3, h4, h5, h6⟩ := hinv
        generalize hds : Pl.dist (ids.take k2) = ds at *
        have HD := hidP hds
        have hdl : ds.length ≤ 4096 := by omega
        have H1 := hidP h1
        have H2 := hidP h2
        have H3 := hidP h3
        have H4 := hidP h4
        have H5 := hidP h5
        have H6 := hidP h6
        clear hds h1 h2 h3 h4 h5 h6
        by_cases hlt2 : k2 < n
        · obtain ⟨y, hy⟩ : ∃ y, ids[k2]? = some y := ⟨ids[k2]'(by rw [HN.out]; exact hlt2), by rw [List.getElem?_eq_getElem]⟩
          obtain ⟨b, off, rfl, hcy⟩ := HC.out k2 y hy
          have hbl : b < w0.heap.size := World.block_lt_of_cell? w0 _ hcy
          have hck : wr.cell? ⟨b, off + k2, none⟩ = some (.string y) := (H4.out.cell (p := ⟨b, off + k2, none⟩) hbl).trans hcy
          have HY := hidP hy
          clear hy
          cases hp : Pl.pos ds y with
          | some i =>
            have HP := hidP hp
            clear hp
            go_wp2_with fail
            refine (zzPeer_old H1.out HP.out).mono ?_
            rintro e w2 ⟨rfl, rfl⟩
            go_wp2_with fail
            refine (place_any (row_of_owns H2.out) (by omega) y).mono ?_
            rintro e w3 ⟨rfl, rfl⟩
            rw [show placeOf ds y = (i : Int) by unfold placeOf; rw [HP.out]]
            go_wp2_with fail
            go_roundw
            case rel => exact ⟨k2 + 1, by omega, by go_num, inv_old HI.out HY.out (by rw [HD.out]; exact HP.out)⟩
            case measure => simp [intOf]; omega
          | none =>
            have HP := hidP hp
            clear hp
            obtain ⟨a2, c2, rfl⟩ := (row_of_owns H2.out).len
            go_wp2_with fail
            refine (zzPeer_new H1.out HP.out (by omega)).mono ?_
            rintro e w2 ⟨rfl, vb', k1, kc, k3⟩
            have K1 := hidP k1
            have KC := hidP kc
            have K3 := hidP k3
            have hck2 : w2.cell? ⟨b, off + k2, none⟩ = some (.string y) := (World.cell?_of_block (kc.block b (by have := H4.out.size; omega) (mine_far H1.out b hbl))).trans hck
            have hrow : w2.ownsRow (w0.heap.size + 2) 9 1 (.slice a2 ds.length c2) ds.length (ds.map Value.string) := row_kept H2.out kc (mine_row H1.out H2.out H3.out)
            have hsz : w0.heap.size + 2 ≤ w2.heap.size := k1.le
            clear k1 kc k3 hck
            go_wp2_with fail
            refine (place_any (row_of_owns hrow) (by omega) y).mono ?_
            rintro e w3 ⟨rfl, rfl⟩
            rw [show placeOf ds y = (-1 : Int) by unfold placeOf; rw [HP.out]]
            obtain ⟨i0, hi, hz0, hz1, hz2⟩ := info_parts info9
            go_wp2_with (first
              | (at_builtin; refine wpList_append_lies _ rfl _ _ 31 rfl (w0.heap.size + 2) 9 i0 (.string ⟨#[]⟩) 1 16 Try.underlying31 hi hz0 hz1 hz2 rfl (by decide) _ ds.length (ds.map Value.string) rfl (hrow.alloc _) ⟨w3.heap.size, 0, none⟩ 1 1 [.string y] rfl rfl ?c1 ?c2 (by decide) ?c3 ?c4 ?c5 _ rfl ?_))
            case c1 => exact cell_one_new _ _ _
            case c2 => intro u hu; simp at hu; subst hu; rfl
            case c3 => unfold maxLen; omega
            case c4 => omega
            case c5 => simp; omega
            intro g cap' w4 a1 a2 a3 _
            have A1 := hidP a1
            have A2 := hidP ((World.grownBy_alloc w3 _ _).trans a2)
            have A3 := hidP a3
            clear a1 a2 a3 hrow hi hz0 hz1 hz2
            go_wp2_with fail
            go_roundw
            case rel => exact ⟨k2 + 1, by omega, by go_num, inv_new HD.out HY.out HP.out H1.out H2.out H3.out H4.out H5.out H6.out K1.out KC.out K3.out (by omega) A1.out A2.out A3.out⟩
            case measure => simp [intOf]; omega
        · obtain ⟨a1, c1, rfl⟩ := (row_of_owns H1.out.owns).len
          obtain ⟨a2, c2, rfl⟩ := (row_of_owns H2.out).len
          clear HI H3 H6 HD hk hlt HC HS
          generalize hm : ds.length = m at *
          have HM := hidP hm
          clear hm
          go_wp2_with fail
          refine (ids_any H1.out).mono ?_
          rintro e w2 ⟨rfl, rfl⟩
          go_wp2_with fail
          go_loopw [11] (fun j wx => ∃ (q nq : Nat), q ≤ m ∧ j = .int .i64 q ∧ wx = w2.drewN nq) (fun j _ => m - (intOf j).toNat)
          case atStart => exact ⟨0, 0, Nat.zero_le _, rfl, rfl⟩
          case round =>
            obtain ⟨q, nq, hq, rfl, rfl⟩ := hrel
            by_cases hlt3 : q < m
            · obtain ⟨y, hy⟩ : ∃ y, ds[q]? = some y := ⟨ds[q]'(by rw [HM.out]; exact hlt3), by rw [List.getElem?_eq_getElem]⟩
              obtain ⟨g1, cp1, hv1, hc1⟩ := own_at H1.out.owns hy
              obtain ⟨g2, cp2, hv2, hc2⟩ := own_at (by rw [HM.out]; exact H2.out) hy
              rw [HM.out] at hv1 hv2
              cases hv1
              cases hv2
              have HX : Hid (∀ n, Calls Try.prog 18 #[.pointer (some ⟨w0.heap.size + 1, 0, none⟩), .string y] (w2.drewN n) fun e w' => e = .returned (.tuple #[.int .i64 q, .bool true]) ∧ w' = w2.drewN n) := hidP (fun n => index_any (H1.out.drewN n) (H5.out q y hy))
              clear hy
              go_wp2_with fail
              have hq1 : (0 : Int) ≤ (q : Int) := by omega
              have hq2 : (q : Int) < (m : Int) := by omega
              go_quiet (fail)
              go_wp2_with fail
              refine (HX.out _).mono ?_
              rintro e w3 ⟨rfl, rfl⟩
              go_wp2_with fail
              go_roundw
              case rel => exact ⟨q + 1, _, by omega, by go_num, rfl⟩
              case measure => simp [intOf]; omega
            · go_wp2_with fail
              go_ret
              exact ⟨rfl, below_drewN H4.out _⟩
end Go.Proofs.Qxb6616555a
