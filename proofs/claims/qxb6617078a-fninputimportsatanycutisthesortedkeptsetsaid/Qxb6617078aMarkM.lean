/-
  THE MARKS of zzMarkByModel (13) and zzMarkByIgnoring (17), and the walk of the first.
-/
import Derived.Test.Qxb6617078aHelp
import Derived.Test.Qxb6617078aNames
namespace Go.Proofs.Qxb6617078a
open Go.RowKit

theorem Marks.below {w w' : World} {hb n : Nat} {h : Nat → Bool} (hm : Marks w hb h n) (hbl : Below w.heap.size w w') (hlt : hb < w.heap.size) : Marks w' hb h n := fun j hj =>
  ⟨(hbl.cell (p := ⟨hb, j, none⟩) hlt).trans (hm j hj).1, (hbl.frozen (p := ⟨hb, j, none⟩) hlt).trans (hm j hj).2⟩
theorem Marks.set {w : World} {hb n : Nat} {h : Nat → Bool} (hm : Marks w hb h n) {j : Nat} (hj : j < n) : Marks (w.setCell ⟨hb, j, none⟩ (.bool true)) hb (fun i => if i = j then true else h i) n := fun i hi => by
  refine ⟨?_, by rw [World.frozen?_setCell]; exact (hm i hi).2⟩
  by_cases e : i = j
  · subst e
    rw [World.cell?_setCell_same _ _ _ (hm i hi).1]
    simp
  · rw [World.cell?_setCell_other _ _ _ _ (by intro x; cases x; exact e rfl), (hm i hi).1]
    simp [e]

/-- Midway: the first k of xs are marked. -/
structure InvM (wb : World) (hb : Nat) (O xs : List ByteArray) (h0 : Nat → Bool) (k : Nat) (h : Nat → Bool) (wr : World) : Prop where
  marks : Marks wr hb h O.length
  more : ∀ j, h0 j = true → h j = true
  hits : ∀ (j : Nat) x, O[j]? = some x → x ∈ xs.take k → h j = true
  below : Below wb.heap.size wb wr
  size : hb < wr.heap.size

theorem InvM.yes {wb wr w4 : World} {hb : Nat} {O xs : List ByteArray} {h0 h : Nat → Bool} {k j : Nat} {p : ByteArray} (hI : InvM wb hb O xs h0 k h wr) (hs : Pl.Strict (O.map D)) (hbs : wb.heap.size ≤ hb) (hp : xs[k]? = some p) (hj : O[j]? = some p) (hbl : Below wr.heap.size wr w4) :
    InvM wb hb O xs h0 (k + 1) (fun i => if i = j then true else h i) (w4.setCell ⟨hb, j, none⟩ (.bool true)) := by
  have hz := hI.size
  have hz4 := hbl.size
  have hzb := hI.below.size
  refine ⟨(hI.marks.below hbl hz).set (getElem?_lt hj), ?_, ?_, (hI.below.trans (hbl.mono hzb)).setCell hbs _, by simp [World.setCell]; omega⟩
  · intro i hi
    have := hI.more i hi
    by_cases e : i = j <;> simp [e, this]
  · intro i x hx hm
    by_cases e : i = j
    · simp [e]
    · simp [e]
      refine hI.hits i x hx ?_
      rw [List.take_add_one, hp, List.mem_append] at hm
      rcases hm with hm | hm
      · exact hm
      · have hxp : x = p := by simpa using hm
        subst hxp
        exact absurd (Pl.strict_inj hs (i := i) (j := j) (x := D x) (by simp [hx]) (by simp [hj])) e
theorem InvM.no {wb wr w4 : World} {hb : Nat} {O xs : List ByteArray} {h0 h : Nat → Bool} {k : Nat} {p : ByteArray} (hI : InvM wb hb O xs h0 k h wr) (hp : xs[k]? = some p) (hno : p ∉ O) (hbl : Below wr.heap.size wr w4) :
    InvM wb hb O xs h0 (k + 1) h w4 := by
  have hz := hI.size
  have hz4 := hbl.size
  have hzb := hI.below.size
  refine ⟨hI.marks.below hbl hz, hI.more, ?_, hI.below.trans (hbl.mono hzb), by omega⟩
  intro i x hx hm
  rw [List.take_add_one, hp, List.mem_append] at hm
  rcases hm with hm | hm
  · exact hI.hits i x hx hm
  · have hxp : x = p := by simpa using hm
    subst hxp
    exact absurd (List.mem_of_getElem? hx) hno

/-- What comes back: true; the marks have grown; what stands in xs is marked. -/
def Marked (wb : World) (hb : Nat) (O xs : List ByteArray) (h0 : Nat → Bool) (e : Ending) (w' : World) : Prop :=
  e = .returned (.bool true) ∧ ∃ h, InvM wb hb O xs h0 xs.length h w'

theorem idx_is {O : List ByteArray} {p : ByteArray} {r : Int} (h : (∃ k : Nat, r = k ∧ O[k]? = some p) ∨ (r = -1 ∧ p ∉ O)) (hp : p ∈ O) : ∃ k : Nat, r = k ∧ O[k]? = some p := by
  rcases h with h | h
  · exact h
  · exact absurd hp h.2
theorem idx_not {O : List ByteArray} {p : ByteArray} {r : Int} (h : (∃ k : Nat, r = k ∧ O[k]? = some p) ∨ (r = -1 ∧ p ∉ O)) (hp : p ∉ O) : r = -1 := by
  rcases h with ⟨k, _, h⟩ | h
  · exact absurd (List.mem_of_getElem? h) hp
  · exact h.1

set_option maxRecDepth 100000 in
set_option maxHeartbeats 2000000 in
theorem markM_any {w wb : World} {hb cap : Nat} {h0 : Nat → Bool} {vo vx vi : Value} {O xs ig : List ByteArray} (hbs : wb.heap.size ≤ hb) (hbz : hb < w.heap.size) (rO : Row wb vo O) (rx : Row wb vx xs) (ri : Row wb vi ig) (bel : Below wb.heap.size wb w)
    (hm : Marks w hb h0 O.length) (hs : Pl.Strict (O.map D)) (hlo : O.length ≤ 1048576) (hsx : Small xs) (hsi : Small ig) (hiff : ∀ x, x ∈ xs → (x ∈ O ↔ named ig x = false)) :
    Calls Try.prog 13 #[vo, .slice (some ⟨hb, 0, none⟩) O.length cap, vx, vi] w fun e w' => Marked wb hb O xs h0 e w' := by
  have RO := hidP rO
  have RI := hidP ri
  have HS := hidP hs
  have HIFF := hidP hiff
  have HSI := hidP hsi
  have HSX := hidP hsx
  have I0 : Hid (InvM wb hb O xs h0 0 h0 w) := ⟨hm, fun _ h => h, fun j x _ h => by simp at h, bel, hbz⟩
  obtain ⟨ax, cx, rfl, hcx⟩ := rx
  have HCX := hidP hcx
  have hnx := hsx.1
  obtain ⟨ao, co, rfl, _⟩ := rO
  obtain ⟨ai, ci, rfl, _⟩ := ri
  clear hcx hs hiff hm bel hsi hsx
  generalize hn : xs.length = n at *
  have HN := hidP hn
  clear hn
  generalize hno : O.length = no at *
  have HNO := hidP hno
  clear hno
  generalize hni : ig.length = ni at *
  have HNI := hidP hni
  clear hni
  go_enter Try.func13, Try.ntmps13
  go_wp2_with fail
  go_loopw [9] (fun i wr => ∃ (k : Nat) (h : Nat → Bool), k ≤ n ∧ i = .int .i64 k ∧ InvM wb hb O xs h0 k h wr) (fun i _ => n - (intOf i).toNat)
  case atStart => exact ⟨0, h0, Nat.zero_le _, rfl, I0.out⟩
  case round =>
    obtain ⟨k, h, hk, rfl, hinv⟩ := hrel
    have HI := hidP hinv
    clear hinv
    by_cases hlt : k < n
    · obtain ⟨p, hp⟩ : ∃ p, xs[k]? = some p := ⟨xs[k]'(by rw [HN.out]; exact hlt), by rw [List.getElem?_eq_getElem]⟩
      obtain ⟨b, off, rfl, hcy⟩ := HCX.out k p hp
      have hbl : b < wb.heap.size := World.block_lt_of_cell? wb _ hcy
      have hck : wr.cell? ⟨b, off + k, none⟩ = some (.string p) := (HI.out.below.cell (p := ⟨b, off + k, none⟩) hbl).trans hcy
      have HP := hidP hp
      have hps : p.size ≤ 1048576 := HSX.out.2 k p hp
      have HF := hidP (HIFF.out p (List.mem_of_getElem? hp))
      clear hp hcy
      go_wp2_with fail
      refine (index_any p (RO.out.below HI.out.below) HS.out (by rw [HNO.out]; omega)).mono ?_
      rintro e w1 ⟨⟨r, rfl, hr⟩, rfl⟩
      cases hnm : named ig p with
      | false =>
        obtain ⟨j, rfl, hj⟩ := idx_is hr (HF.out.2 hnm)
        have hjn : j < no := by rw [← HNO.out]; exact getElem?_lt hj
        have hj0 : (0 : Int) ≤ (j : Int) := by omega
        have hj1 : (j : Int) < (no : Int) := by omega
        have HJ := hidP hj
        have HNM := hidP hnm
        clear hr hj hnm
        go_wp2_with fail
        refine (named_any (RI.out.below HI.out.below) p (by omega) (by have := HSI.out.1; omega) (fun j s hj => by have := HSI.out.2 j s hj; omega)).mono ?_
        rintro e w2 ⟨rfl, q, rfl⟩
        rw [HNM.out]
        have hin := HI.out.marks j (by rw [HNO.out]; exact hjn)
        have hc1 : (w1.drewN q).cell? ⟨hb, j, none⟩ = some (.bool (h j)) := hin.1
        have hc2 : (w1.drewN q).frozen? ⟨hb, j, none⟩ = false := hin.2
        clear hin
        go_wp2_with fail
        go_roundw
        case rel => exact ⟨k + 1, _, by omega, by go_num, HI.out.yes HS.out hbs HP.out HJ.out (below_drewN_refl _ _ _)⟩
        case measure => simp [intOf]; omega
      | true =>
        have hno : p ∉ O := fun hin => by have := HF.out.1 hin; rw [hnm] at this; cases this
        have := idx_not hr hno
        subst this
        have HNO2 := hidP hno
        have HNM := hidP hnm
        clear hr hno hnm
        go_wp2_with fail
        refine (named_any (RI.out.below HI.out.below) p (by omega) (by have := HSI.out.1; omega) (fun j s hj => by have := HSI.out.2 j s hj; omega)).mono ?_
        rintro e w2 ⟨rfl, q, rfl⟩
        rw [HNM.out]
        go_wp2_with fail
        go_roundw
        case rel => exact ⟨k + 1, _, by omega, by go_num, HI.out.no HP.out HNO2.out (below_drewN_refl _ _ _)⟩
        case measure => simp [intOf]; omega
    · go_wp2_with fail
      go_ret
      have hkn : k = xs.length := by rw [HN.out]; omega
      exact ⟨rfl, h, hkn ▸ HI.out⟩
end Go.Proofs.Qxb6617078a
