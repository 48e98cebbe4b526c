/-
  THE PLAIN LAWS on what InputImports gives: the kept paths, sorted, each once: no walk in sight.
-/
import Derived.Test.Qxb6617078aSort
import Derived.Lib.SlicesCompact
namespace Go.Proofs.Qxb6617078a
namespace Pl

/-- Strictly rising. -/
def Strict (l : List (List UInt8)) : Prop := l.Pairwise (· < ·)

theorem bang_get (zs : List (List UInt8)) (j : Nat) (h : j < zs.length) : zs.toArray[j]! = zs[j]'h := by
  rw [getElem!_pos zs.toArray j (by simpa using h)]
  simp

theorem compact_upto {zs : List (List UInt8)} (hs : Sorted zs) : ∀ m, m ≤ zs.length → Strict (Lib.compactUpTo zs.toArray m) ∧ (∀ x, x ∈ Lib.compactUpTo zs.toArray m ↔ ∃ j, j < m ∧ zs[j]? = some x) ∧ (Lib.compactUpTo zs.toArray m).length ≤ m
  | 0, _ => ⟨by simp [Lib.compactUpTo, Strict], by intro x; simp [Lib.compactUpTo], by simp [Lib.compactUpTo]⟩
  | m + 1, h => by
    obtain ⟨h1, h2, h3⟩ := compact_upto hs m (by omega)
    have hm : m < zs.length := by omega
    have hg := bang_get zs m hm
    have hsome : zs[m]? = some (zs[m]'hm) := List.getElem?_eq_getElem hm
    rw [Lib.compactUpTo_succ]
    by_cases hk : Lib.keeps zs.toArray m = true
    · rw [if_pos hk, hg]
      refine ⟨?_, ?_, by simp; omega⟩
      · unfold Strict at h1 ⊢
        rw [List.pairwise_append]
        refine ⟨h1, by simp, fun a ha b hb => ?_⟩
        have hb' : b = zs[m]'hm := by simpa using hb
        subst hb'
        obtain ⟨j, hj, hja⟩ := (h2 a).1 ha
        -- a stands at j < m; the one before place m is another than that at m
        have hm0 : m ≠ 0 := by omega
        have hne : zs[m]'hm ≠ zs[m - 1]'(by omega) := by
          have hk' : m = 0 ∨ zs.toArray[m]! ≠ zs.toArray[m - 1]! := by simpa [Lib.keeps] using hk
          rcases hk' with hk' | hk'
          · exact absurd hk' hm0
          · rw [hg, bang_get zs (m - 1) (by omega)] at hk'; exact hk'
        have hpw := List.pairwise_iff_getElem.1 hs
        have hlast : zs[m - 1]'(by omega) < zs[m]'hm := lt_of_not (hpw (m - 1) m (by omega) hm (by omega)) (Ne.symm hne)
        have hja' : zs[j]'(by omega) = a := by
          have := List.getElem?_eq_getElem (l := zs) (i := j) (by omega)
          rw [hja] at this
          exact (Option.some.inj this).symm
        by_cases hjm : j = m - 1
        · subst hjm; rw [← hja']; exact hlast
        · have h4 : ¬ zs[m - 1]'(by omega) < zs[j]'(by omega) := hpw j (m - 1) (by omega) (by omega) (by omega)
          by_cases h5 : zs[j]'(by omega) = zs[m - 1]'(by omega)
          · rw [← hja', h5]; exact hlast
          · rw [← hja']; exact lt_trans (lt_of_not h4 h5) hlast
      · intro x
        rw [List.mem_append, h2]
        constructor
        · rintro (⟨j, hj, hx⟩ | hx)
          · exact ⟨j, by omega, hx⟩
          · have hx' : x = zs[m]'hm := by simpa using hx
            exact ⟨m, by omega, by rw [hx']; exact hsome⟩
        · rintro ⟨j, hj, hx⟩
          by_cases hjm : j = m
          · subst hjm
            rw [hsome] at hx
            exact .inr (by simp [(Option.some.inj hx).symm])
          · exact .inl ⟨j, by omega, hx⟩
    · have hk' : Lib.keeps zs.toArray m = false := by simpa using hk
      rw [hk', if_neg (by simp), List.append_nil]
      refine ⟨h1, ?_, by omega⟩
      intro x
      rw [h2]
      constructor
      · rintro ⟨j, hj, hx⟩; exact ⟨j, by omega, hx⟩
      · rintro ⟨j, hj, hx⟩
        by_cases hjm : j = m
        · subst hjm
          have hdup : ¬ (j = 0 ∨ zs.toArray[j]! ≠ zs.toArray[j - 1]!) := by simpa [Lib.keeps] using hk'
          have hj0 : j ≠ 0 := fun e => hdup (.inl e)
          have he : zs.toArray[j]! = zs.toArray[j - 1]! := Classical.byContradiction (fun e => hdup (.inr e))
          rw [hg, bang_get zs (j - 1) (by omega)] at he
          refine ⟨j - 1, by omega, ?_⟩
          rw [List.getElem?_eq_getElem (by omega), ← he, ← hsome]
          exact hx
        · exact ⟨j, by omega, hx⟩

theorem compact_strict {zs : List (List UInt8)} (hs : Sorted zs) : Strict (Lib.compact zs) := (compact_upto hs zs.length (Nat.le_refl _)).1
theorem compact_mem {zs : List (List UInt8)} (hs : Sorted zs) (x : List UInt8) : x ∈ Lib.compact zs ↔ x ∈ zs := by
  unfold Lib.compact
  rw [(compact_upto hs zs.length (Nat.le_refl _)).2.1 x, List.mem_iff_getElem?]
  constructor
  · rintro ⟨j, _, h⟩; exact ⟨j, h⟩
  · rintro ⟨j, h⟩; exact ⟨j, getElem?_lt h, h⟩
theorem compact_len {zs : List (List UInt8)} (hs : Sorted zs) : (Lib.compact zs).length ≤ zs.length := (compact_upto hs zs.length (Nat.le_refl _)).2.2

/-- Strictly rising lists of the same strings are one list. -/
theorem strict_ext : ∀ {a b : List (List UInt8)}, Strict a → Strict b → (∀ x, x ∈ a ↔ x ∈ b) → a = b
  | [], [], _, _, _ => rfl
  | [], y :: b, _, _, h => absurd ((h y).2 (by simp)) (by simp)
  | x :: a, [], _, _, h => absurd ((h x).1 (by simp)) (by simp)
  | x :: a, y :: b, ha, hb, h => by
    unfold Strict at ha hb
    rw [List.pairwise_cons] at ha hb
    have hxy : x = y := by
      have h1 := (h x).1 (by simp)
      have h2 := (h y).2 (by simp)
      rw [List.mem_cons] at h1 h2
      rcases h1 with h1 | h1
      · exact h1
      · rcases h2 with h2 | h2
        · exact h2.symm
        · exact absurd (ha.1 y h2) (lt_asymm (hb.1 x h1))
    subst hxy
    have htail : ∀ z, z ∈ a ↔ z ∈ b := by
      intro z
      constructor
      · intro hz
        have := (h z).1 (by simp [hz])
        rw [List.mem_cons] at this
        rcases this with e | e
        · subst e; exact absurd (ha.1 z hz) (lt_irrefl z)
        · exact e
      · intro hz
        have := (h z).2 (by simp [hz])
        rw [List.mem_cons] at this
        rcases this with e | e
        · subst e; exact absurd (hb.1 z hz) (lt_irrefl z)
        · exact e
    rw [strict_ext ha.2 hb.2 htail]

theorem strict_inj {l : List (List UInt8)} (h : Strict l) {i j : Nat} {x : List UInt8} (hi : l[i]? = some x) (hj : l[j]? = some x) : i = j := by
  have hil := getElem?_lt hi
  have hjl := getElem?_lt hj
  have hpw := List.pairwise_iff_getElem.1 h
  rw [List.getElem?_eq_getElem hil] at hi
  rw [List.getElem?_eq_getElem hjl] at hj
  have e1 := Option.some.inj hi
  have e2 := Option.some.inj hj
  rcases Nat.lt_trichotomy i j with h1 | h1 | h1
  · have := hpw i j hil hjl h1
    rw [e1, e2] at this
    exact absurd this (lt_irrefl x)
  · exact h1
  · have := hpw j i hjl hil h1
    rw [e1, e2] at this
    exact absurd this (lt_irrefl x)
theorem strict_sorted : ∀ {Q : List (List UInt8)}, Strict Q → Sorted Q
  | [], _ => by simp [Sorted]
  | a :: Q, h => by
    unfold Strict at h
    rw [List.pairwise_cons] at h
    have := strict_sorted h.2
    unfold Sorted at this ⊢
    rw [List.pairwise_cons]
    exact ⟨fun b hb => lt_asymm (h.1 b hb), this⟩
end Pl

/-! ### InputImports' answer -/
/-- The kept ones. -/
def keptB (ig all : List ByteArray) : List ByteArray := all.filter fun p => !named ig p
def compactB (ds : List ByteArray) : List ByteArray := (Lib.compact (ds.map D)).map S
def outB (ig imps reqs : List ByteArray) : List ByteArray := compactB (sortB (keptB ig (imps ++ reqs)))

theorem compactB_D (ds : List ByteArray) : (compactB ds).map D = Lib.compact (ds.map D) := map_D_S _
theorem mem_D {l : List ByteArray} {x : ByteArray} : D x ∈ l.map D ↔ x ∈ l := by
  constructor
  · intro h
    obtain ⟨y, hy, e⟩ := List.mem_map.1 h
    rw [← D_inj e]
    exact hy
  · intro h
    exact List.mem_map.2 ⟨x, h, rfl⟩

theorem outB_strict (ig imps reqs : List ByteArray) : Pl.Strict ((outB ig imps reqs).map D) := by
  unfold outB
  rw [compactB_D]
  exact Pl.compact_strict (sortB_sorted _)
theorem outB_mem (ig imps reqs : List ByteArray) (x : ByteArray) : x ∈ outB ig imps reqs ↔ (x ∈ imps ∨ x ∈ reqs) ∧ named ig x = false := by
  rw [← mem_D]
  unfold outB
  rw [compactB_D, Pl.compact_mem (sortB_sorted _), sortB_mem, mem_D]
  unfold keptB
  rw [List.mem_filter, List.mem_append]
  simp
theorem outB_len (ig imps reqs : List ByteArray) : (outB ig imps reqs).length ≤ reqs.length + imps.length := by
  have h1 : (outB ig imps reqs).length = (Lib.compact ((sortB (keptB ig (imps ++ reqs))).map D)).length := by
    unfold outB compactB
    simp
  rw [h1]
  have h2 := Pl.compact_len (sortB_sorted (keptB ig (imps ++ reqs)))
  rw [List.length_map, sortB_length] at h2
  have h3 : (keptB ig (imps ++ reqs)).length ≤ (imps ++ reqs).length := List.length_filter_le _ _
  rw [List.length_append] at h3
  omega

theorem map_D_inj {a b : List ByteArray} (h : a.map D = b.map D) : a = b := by
  have : (a.map D).map S = (b.map D).map S := by rw [h]
  rw [List.map_map, List.map_map] at this
  have e : (S ∘ D) = id := by funext x; exact S_D x
  rw [e, List.map_id, List.map_id] at this
  exact this

/-- Strictly rising lists of the same strings are one list. -/
theorem strictB_ext {a b : List ByteArray} (ha : Pl.Strict (a.map D)) (hb : Pl.Strict (b.map D)) (h : ∀ x, x ∈ a ↔ x ∈ b) : a = b := by
  refine map_D_inj (Pl.strict_ext ha hb (fun y => ?_))
  have hy : y = D (S y) := (D_S y).symm
  rw [hy, mem_D, mem_D]
  exact h _

/-- Handing the answer back gives it again. -/
theorem outB_fixed (ig imps reqs : List ByteArray) : outB ig (outB ig imps reqs) reqs = outB ig imps reqs := by
  refine strictB_ext (outB_strict _ _ _) (outB_strict _ _ _) (fun x => ?_)
  rw [outB_mem, outB_mem]
  constructor
  · rintro ⟨h1 | h1, h2⟩
    · exact h1
    · exact ⟨.inr h1, h2⟩
  · rintro ⟨h1, h2⟩
    exact ⟨.inl ⟨h1, h2⟩, h2⟩

end Go.Proofs.Qxb6617078a
