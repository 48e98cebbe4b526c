/-
  THE WALK of zzMarkByIgnoring (17).
-/
import Derived.Test.Qxb6617078aMarkM
import Derived.Test.Qxb6617078aIgnores
import Derived.Deep.RegionHeld3
namespace Go.Proofs.Qxb6617078a
open Go.RowKit

theorem InvM.alloc {wb wr : World} {hb : Nat} {O xs : List ByteArray} {h0 h : Nat → Bool} {k : Nat} (hI : InvM wb hb O xs h0 k h wr) (o : Obj) : InvM wb hb O xs h0 k h (wr.alloc o) :=
  ⟨hI.marks.below ((Below.refl _ _).alloc (Nat.le_refl _) _) hI.size, hI.more, hI.hits, hI.below.alloc hI.below.size _, by have := hI.size; simp; omega⟩

/-- Ignores, behind the region's draw: what the region and the round need of the world behind it. -/
theorem ignores_held {w1 wb : World} {vi c0 c1 c2 : Value} {ig : List ByteArray} {p : ByteArray} {q : Bool} {a0 a1 a2 : Addr} (ri : Ign wb vi ig) (hb : Below wb.heap.size wb w1) (hq : named ig p = q) (h0 : w1.cell? a0 = some c0) (h1 : w1.cell? a1 = some c1) (h2 : w1.cell? a2 = some c2) :
    Calls Try.prog 19 #[vi, .string p] w1.drew fun e w' => e = .returned (.bool q) ∧ w'.cell? a0 = some c0 ∧ w'.cell? a1 = some c1 ∧ w'.cell? a2 = some c2 ∧ Below w1.heap.size w1 w' := by
  have hd : Below w1.heap.size w1 w1.drew := ⟨rfl, rfl, rfl, Nat.le_refl _, fun _ _ => rfl⟩
  refine (ignores_any (ri.below (hb.trans (hd.mono hb.size))) p).mono ?_
  rintro e w' ⟨rfl, hbl⟩
  have hbl' : Below w1.heap.size w1 w' := hd.trans hbl
  exact ⟨by rw [hq], (hbl'.cell (World.block_lt_of_cell? w1 _ h0)).trans h0, (hbl'.cell (World.block_lt_of_cell? w1 _ h1)).trans h1, (hbl'.cell (World.block_lt_of_cell? w1 _ h2)).trans h2, hbl'⟩

set_option maxRecDepth 100000 in
set_option maxHeartbeats 2000000 in
theorem markI_any {w wb : World} {hb cap : Nat} {h0 : Nat → Bool} {vo vx vi : Value} {O xs ig : List ByteArray} (hbs : wb.heap.size ≤ hb) (hbz : hb < w.heap.size) (rO : Row wb vo O) (rx : Row wb vx xs) (ri : Ign wb vi ig) (bel : Below wb.heap.size wb w)
    (hm : Marks w hb h0 O.length) (hs : Pl.Strict (O.map D)) (hlo : O.length ≤ 1048576) (hsx : Small xs) (hiff : ∀ x, x ∈ xs → (x ∈ O ↔ named ig x = false)) :
    Calls Try.prog 17 #[vo, .slice (some ⟨hb, 0, none⟩) O.length cap, vx, vi] w fun e w' => Marked wb hb O xs h0 e w' := by
  have RO := hidP rO
  have RI := hidP ri
  have HS := hidP hs
  have HIFF := hidP hiff
  have HSX := hidP hsx
  have I0 : Hid (InvM wb hb O xs h0 0 h0 w) := ⟨hm, fun _ h => h, fun j x _ h => by simp at h, bel, hbz⟩
  obtain ⟨ax, cx, rfl, hcx⟩ := rx
  have HCX := hidP hcx
  have hnx := hsx.1
  obtain ⟨ao, co, rfl, _⟩ := rO
  obtain ⟨mb, qv, Q, rfl, _, ⟨aq, cq, rfl, _⟩, _⟩ := ri
  clear hcx hs hiff hm bel hsx
  generalize hn : xs.length = n at *
  have HN := hidP hn
  clear hn
  generalize hno : O.length = no at *
  have HNO := hidP hno
  clear hno
  go_enter Try.func17, Try.ntmps17
  go_wp2_with fail
  go_loopw [9] (fun i wr => ∃ (k : Nat) (h : Nat → Bool), k ≤ n ∧ i = .int .i64 k ∧ InvM wb hb O xs h0 k h wr ∧ w.heap.size < wr.heap.size ∧ wr.cell? ⟨w.heap.size, 0, none⟩ = some (.map (some mb)) ∧ wr.cell? ⟨w.heap.size, 1, none⟩ = some (.slice aq Q.length cq)) (fun i _ => n - (intOf i).toNat)
  case atStart => exact ⟨0, h0, Nat.zero_le _, rfl, I0.out.alloc _, by simp, by simp, by simp⟩
  case round =>
    obtain ⟨k, h, hk, rfl, hinv, hvz, hv0, hv1⟩ := hrel
    have HI := hidP hinv
    clear hinv
    by_cases hlt : k < n
    · obtain ⟨p, hp⟩ : ∃ p, xs[k]? = some p := ⟨xs[k]'(by rw [HN.out]; exact hlt), by rw [List.getElem?_eq_getElem]⟩
      obtain ⟨b, off, rfl, hcy⟩ := HCX.out k p hp
      have hbl : b < wb.heap.size := World.block_lt_of_cell? wb _ hcy
      have hck : wr.cell? ⟨b, off + k, none⟩ = some (.string p) := (HI.out.below.cell (p := ⟨b, off + k, none⟩) hbl).trans hcy
      have HP := hidP hp
      have hps : p.size ≤ 1048576 := HSX.out.2 k p hp
      have HF := hidP (HIFF.out p (List.mem_of_getElem? hp))
      clear hp hcy
      go_wp2_with fail
      refine (index_any p (RO.out.below HI.out.below) HS.out (by rw [HNO.out]; omega)).mono ?_
      rintro e w1 ⟨⟨r, rfl, hr⟩, rfl⟩
      cases hnm : named ig p with
      | false =>
        obtain ⟨j, rfl, hj⟩ := idx_is hr (HF.out.2 hnm)
        have hjn : j < no := by rw [← HNO.out]; exact getElem?_lt hj
        have hj0 : (0 : Int) ≤ (j : Int) := by omega
        have hj1 : (j : Int) < (no : Int) := by omega
        have HJ := hidP hj
        have HNM := hidP hnm
        clear hr hj hnm
        go_wp2_with fail
        have hk0 : (0 : Int) ≤ (k : Int) := by omega
        have hk1 : (k : Int) < (n : Int) := by omega
        have hdr : Below w1.heap.size w1 w1.drew := ⟨rfl, rfl, rfl, Nat.le_refl _, fun _ _ => rfl⟩
        have HCAL := hidP (ignores_held RI.out HI.out.below HNM.out hv0 hv1 hck)
        go_region_held3 (fun w' => w'.cell? ⟨w.heap.size, 0, none⟩ = some (.map (some mb)) ∧ w'.cell? ⟨w.heap.size, 1, none⟩ = some (.slice aq Q.length cq) ∧ w'.cell? ⟨b, off + k, none⟩ = some (.string p) ∧ Below w1.heap.size w1 w') (first | go_keep)
          (first | (go_at_call 19; refine HCAL.out.mono ?_; rintro e w2 ⟨rfl, f0, f1, f2, f3⟩))
        have hin := (HI.out.marks.below f3 HI.out.size) j (by rw [HNO.out]; exact hjn)
        have hc1 := hin.1
        have hc2 := hin.2
        have hz2 := f3.size
        have F3 := hidP f3
        clear hin f3 HCAL
        go_wp2_with fail
        go_roundw
        case rel => exact ⟨k + 1, _, by omega, by go_num, HI.out.yes HS.out hbs HP.out HJ.out F3.out, by simp [World.setCell]; omega, (World.cell?_setCell_other _ _ _ _ (by intro x; cases x; omega)).trans f0, (World.cell?_setCell_other _ _ _ _ (by intro x; cases x; omega)).trans f1⟩
        case measure => simp [intOf]; omega
      | true =>
        have hno : p ∉ O := fun hin => by have := HF.out.1 hin; rw [hnm] at this; cases this
        have := idx_not hr hno
        subst this
        have HNO2 := hidP hno
        have HNM := hidP hnm
        clear hr hno hnm
        go_wp2_with fail
        have hk0 : (0 : Int) ≤ (k : Int) := by omega
        have hk1 : (k : Int) < (n : Int) := by omega
        have hdr : Below w1.heap.size w1 w1.drew := ⟨rfl, rfl, rfl, Nat.le_refl _, fun _ _ => rfl⟩
        have HCAL := hidP (ignores_held RI.out HI.out.below HNM.out hv0 hv1 hck)
        go_region_held3 (fun w' => w'.cell? ⟨w.heap.size, 0, none⟩ = some (.map (some mb)) ∧ w'.cell? ⟨w.heap.size, 1, none⟩ = some (.slice aq Q.length cq) ∧ w'.cell? ⟨b, off + k, none⟩ = some (.string p) ∧ Below w1.heap.size w1 w') (first | go_keep)
          (first | (go_at_call 19; refine HCAL.out.mono ?_; rintro e w2 ⟨rfl, f0, f1, f2, f3⟩))
        have hz2 := f3.size
        have F3 := hidP f3
        clear f3 HCAL
        go_wp2_with fail
        go_roundw
        case rel => exact ⟨k + 1, _, by omega, by go_num, HI.out.no HP.out HNO2.out F3.out, by omega, f0, f1⟩
        case measure => simp [intOf]; omega
    · go_wp2_with fail
      go_ret
      have hkn : k = xs.length := by rw [HN.out]; omega
      exact ⟨rfl, h, hkn ▸ HI.out⟩
end Go.Proofs.Qxb6617078a
