/-
  THE WALK of Ignoring.Ignores (19).
-/
import Derived.Test.Qxb6617078aNames
namespace Go.Proofs.Qxb6617078a
open Go.RowKit

/-- What the exact map holds. -/
def exFn (ig : List ByteArray) (s : ByteArray) : Option Value := if D s ∈ Pl.exacts (ig.map D) then some (.bool true) else none

/-- v IS AN Ignoring MADE OF ig. -/
def Ign (w : World) (v : Value) (ig : List ByteArray) : Prop :=
  ∃ mb qv Q, v = .agg #[.map (some mb), qv] ∧ SM.IsMap w mb (exFn ig) ∧ Row w qv Q ∧ Pl.Free (Q.map D) ∧
    (∀ p, Pl.named (ig.map D) p = true ↔ p ∈ Pl.exacts (ig.map D) ∨ ∃ q, q ∈ Q.map D ∧ q <+: p) ∧ Q.length < 4611686018427387904

theorem Ign.below {w w' : World} {v : Value} {ig : List ByteArray} (h : Ign w v ig) (hb : Below w.heap.size w w') : Ign w' v ig := by
  obtain ⟨mb, qv, Q, rfl, h1, h2, h3⟩ := h
  exact ⟨mb, qv, Q, rfl, h1.below hb h1.lt, h2.below hb, h3⟩

theorem zero4 (w : World) : (zeroValue 4).run Try.prog w = .ok (.bool false) w := by kernel_rfl

/-- The strings of Q, and x beyond them. -/
def Sx (Q : List ByteArray) (x : ByteArray) (t : Nat) : ByteArray := Q.getD t x

theorem Sx_lt {Q : List ByteArray} {x : ByteArray} {t : Nat} (h : t < Q.length) : Sx Q x t = Q[t]'h := by
  unfold Sx
  rw [List.getD_eq_getElem?_getD, List.getElem?_eq_getElem h]
  rfl
theorem Sx_ge {Q : List ByteArray} {x : ByteArray} {t : Nat} (h : Q.length ≤ t) : Sx Q x t = x := by
  unfold Sx
  rw [List.getD_eq_getElem?_getD, List.getElem?_eq_none h]
  rfl
theorem found_eq (Q : List ByteArray) (x : ByteArray) (k : Nat) : decide (k < Q.length ∧ Sx Q x k = x) = decide (Q[k]? = some x) := by
  by_cases hkl : k < Q.length
  · rw [List.getElem?_eq_getElem hkl, Sx_lt hkl]
    simp [hkl]
  · rw [List.getElem?_eq_none (by omega)]
    simp [hkl]

theorem less_eq (a b : ByteArray) : Op.bytesLess a.toList b.toList = decide (D a < D b) := by
  rw [toList_D, toList_D]
  exact Proofs.bytesLess_eq _ _

/-- Where the search comes to. -/
theorem search_to {Q : List ByteArray} (hf : Pl.Free (Q.map D)) (x : ByteArray) : ∃ k, k ≤ Q.length ∧ Lib.bsGo (fun t => Op.bytesLess (Sx Q x t).toList x.toList) Q.length 0 Q.length = k ∧
    ((∃ q, q ∈ Q.map D ∧ q <+: D x) ↔ (Q[k]? = some x ∨ (0 < k ∧ ∃ l, Q[k - 1]? = some l ∧ D l <+: D x))) := by
  obtain ⟨k, hk, h1, h2⟩ := Pl.split_at (D x) (Q.map D) (Pl.free_sorted hf)
  have hk' : k ≤ Q.length := by simpa using hk
  refine ⟨k, hk', ?_, ?_⟩
  · refine Lib.bsGo_spec _ k ?_ ?_ _ _ _ (by omega) (Nat.zero_le _) hk'
    · intro t ht
      rw [less_eq]
      have htl : t < Q.length := by omega
      have hq : Q[t]? = some (Q[t]'htl) := List.getElem?_eq_getElem htl
      rw [Sx_lt htl]
      simpa using h1 t _ ht (by simp [hq])
    · intro t ht
      rw [less_eq]
      by_cases htl : t < Q.length
      · have hq : Q[t]? = some (Q[t]'htl) := List.getElem?_eq_getElem htl
        rw [Sx_lt htl]
        simpa using h2 t _ ht (by simp [hq])
      · rw [Sx_ge (by omega)]
        simp
  · rw [Pl.search hf hk h1 h2]
    constructor
    · rintro (h | ⟨h0, l, hl, hp⟩)
      · left
        rw [List.getElem?_map] at h
        cases hq : Q[k]? with
        | none => rw [hq] at h; cases h
        | some y => rw [hq] at h; simp at h; rw [D_inj h]
      · right
        rw [List.getElem?_map] at hl
        cases hq : Q[k - 1]? with
        | none => rw [hq] at hl; cases hl
        | some y => rw [hq] at hl; simp at hl; exact ⟨h0, y, rfl, by rw [hl]; exact hp⟩
    · rintro (h | ⟨h0, l, hl, hp⟩)
      · left; rw [List.getElem?_map, h]; rfl
      · right; exact ⟨h0, D l, by rw [List.getElem?_map, hl]; rfl, hp⟩

/-- The search's contract over a row of strings. -/
theorem bs_any {w : World} {v : Value} {Q : List ByteArray} (h : Row w v Q) (hl : Q.length < 4611686018427387904) (x : ByteArray) (k : Nat) (hk : Lib.bsGo (fun t => Op.bytesLess (Sx Q x t).toList x.toList) Q.length 0 Q.length = k) :
    Calls Try.prog 29 #[v, .string x] w fun e w' => e = .returned (.tuple #[.int .i64 (k : Nat), .bool (decide (Q[k]? = some x))]) ∧ ∃ q, w' = w.drewN q := by
  obtain ⟨a, cap, rfl, hc⟩ := h
  by_cases hQ : Q = []
  · subst hQ
    have hk0 : k = 0 := by rw [← hk]; rfl
    subst hk0
    refine (Try.slices_BinarySearch_string_empty a cap x w).mono fun e w' ⟨he, hw⟩ => ⟨by rw [he]; simp, 0, by rw [hw]; rfl⟩
  · have hpos : 0 < Q.length := List.length_pos_iff.2 hQ
    obtain ⟨b, off, rfl, _⟩ := hc 0 (Q[0]'hpos) (List.getElem?_eq_getElem hpos)
    have hc' : ∀ j, j < Q.length → w.cell? ⟨b, off + j, none⟩ = some (.string (Sx Q x j)) := by
      intro j hj
      obtain ⟨b', off', e, h2⟩ := hc j _ (List.getElem?_eq_getElem hj)
      cases e
      rw [Sx_lt hj]
      exact h2
    have hcon := Try.slices_BinarySearch_string b off Q.length cap (Sx Q x) x w hl hc'
    rw [hk, found_eq] at hcon
    exact hcon

theorem look_ex {w : World} {mb : Nat} {ig : List ByteArray} (h : SM.IsMap w mb (exFn ig)) (p : ByteArray) (o : Obj) (b : Bool) (hb : b = decide (D p ∈ Pl.exacts (ig.map D))) :
    (Instr.lookup 42 (.map (some mb)) (.string p) false).run Try.prog (w.alloc o) = .ok (.bool b) (w.alloc o) := by
  have h1 := (h.alloc o).lookup (P := Try.prog) (t := 42) Try.underlying9 Try.underlying42 (zero4 _) p false
  rw [h1, hb]
  unfold exFn
  by_cases hm : D p ∈ Pl.exacts (ig.map D) <;> simp [hm]

set_option maxHeartbeats 1000000 in
theorem ignores_any {w : World} {v : Value} {ig : List ByteArray} (h : Ign w v ig) (p : ByteArray) :
    Calls Try.prog 19 #[v, .string p] w fun e w' => e = .returned (.bool (named ig p)) ∧ Below w.heap.size w w' := by
  obtain ⟨mb, qv, Q, rfl, hm, hrow, hf, hiff, hl⟩ := h
  have hnm := hiff (D p)
  by_cases hex : D p ∈ Pl.exacts (ig.map D)
  · have hlk := fun o => look_ex hm p o true (by simp [hex])
    have hn : named ig p = true := hnm.2 (.inl hex)
    rw [hn]
    clear hm hrow hf hiff hnm hex hn
    go_enter Try.func19, Try.ntmps19
    go_wp2_with fail
    go_ret
    exact ⟨rfl, (Below.refl _ _).alloc (Nat.le_refl _) _⟩
  · have hlk := fun o => look_ex hm p o false (by simp [hex])
    obtain ⟨k, hkl, hbs, hs⟩ := search_to hf p
    have hnm2 : named ig p = true ↔ (Q[k]? = some p ∨ (0 < k ∧ ∃ l, Q[k - 1]? = some l ∧ D l <+: D p)) := by
      rw [← hs]
      unfold named
      rw [hnm]
      constructor
      · rintro (h | h)
        · exact absurd h hex
        · exact h
      · exact .inr
    have HBS := hidP (fun o => bs_any (hrow.below ((Below.refl _ _).alloc (Nat.le_refl w.heap.size) o)) hl p k hbs)
    clear hs hbs hnm hex hf hiff hm
    by_cases hfd : Q[k]? = some p
    · have hn : named ig p = true := hnm2.2 (.inl hfd)
      rw [hn]
      have hd : decide (Q[k]? = some p) = true := by simp [hfd]
      rw [hd] at HBS
      clear hnm2 hn hfd hd hrow
      go_enter Try.func19, Try.ntmps19
      go_wp2_with fail
      refine (HBS.out _).mono ?_
      rintro e w1 ⟨rfl, q, rfl⟩
      go_wp2_with fail
      go_ret
      exact ⟨rfl, below_drewN ((Below.refl _ _).alloc (Nat.le_refl _) _) _⟩
    · have hd : decide (Q[k]? = some p) = false := by simp [hfd]
      rw [hd] at HBS
      by_cases hk0 : k = 0
      · have hn : named ig p = false := by
          cases hb : named ig p with
          | false => rfl
          | true =>
            rcases hnm2.1 hb with h | ⟨h, _⟩
            · exact absurd h hfd
            · omega
        rw [hn]
        subst hk0
        clear hnm2 hn hfd hd hrow
        go_enter Try.func19, Try.ntmps19
        go_wp2_with fail
        refine (HBS.out _).mono ?_
        rintro e w1 ⟨rfl, q, rfl⟩
        go_wp2_with fail
        go_ret
        exact ⟨rfl, below_drewN ((Below.refl _ _).alloc (Nat.le_refl _) _) _⟩
      · have hk1 : k - 1 < Q.length := by omega
        obtain ⟨l, hq⟩ : ∃ l, Q[k - 1]? = some l := ⟨_, List.getElem?_eq_getElem hk1⟩
        have hn : named ig p = Lib.hasPrefix (D p) (D l) := by
          rw [Bool.eq_iff_iff, hnm2, Pl.hasPrefix_iff]
          constructor
          · rintro (h | ⟨_, l', hl', h⟩)
            · exact absurd h hfd
            · rw [hq] at hl'; cases hl'; exact h
          · exact fun h => .inr ⟨by omega, l, hq, h⟩
        rw [hn]
        obtain ⟨a, cap, rfl, hc⟩ := hrow
        obtain ⟨b, off, rfl, hcell⟩ := hc (k - 1) l hq
        have hbl : b < w.heap.size := World.block_lt_of_cell? w _ hcell
        have hcell' : ∀ o, (w.alloc o).cell? ⟨b, off + (k - 1), none⟩ = some (.string l) := fun o => (World.cell?_of_block (Below.heap_alloc w o b hbl)).trans hcell
        have hkp : (0 : Int) < (k : Int) := by omega
        generalize hm : k - 1 = m at *
        have hkm : (k : Int) = (m : Int) + 1 := by omega
        generalize hN : Q.length = N at *
        clear hnm2 hn hfd hd hc hcell hN hq
        go_enter Try.func19, Try.ntmps19
        go_wp2_with fail
        refine (HBS.out _).mono ?_
        rintro e w1 ⟨rfl, q, rfl⟩
        go_wp2_with fail
        refine (Try.strings_HasPrefix _ _ _).mono ?_
        rintro e w1 ⟨rfl, rfl⟩
        go_wp2_with fail
        go_ret
        exact ⟨rfl, below_drewN ((Below.refl _ _).alloc (Nat.le_refl _) _) _⟩
end Go.Proofs.Qxb6617078a
