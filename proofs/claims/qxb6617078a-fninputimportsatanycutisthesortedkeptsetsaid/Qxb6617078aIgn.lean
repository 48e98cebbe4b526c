/-
  THE PLAIN LAWS on ignored lists: no Go in sight. Strings are lists of bytes.
-/
import Derived.Lib.Strings
namespace Go.Proofs.Qxb6617078a.Pl

theorem u8_tri {a b : UInt8} (h1 : ¬ a < b) (h2 : ¬ b < a) : a = b := by
  have h3 : ¬ a.toNat < b.toNat := fun h => h1 (UInt8.lt_iff_toNat_lt.2 h)
  have h4 : ¬ b.toNat < a.toNat := fun h => h2 (UInt8.lt_iff_toNat_lt.2 h)
  exact UInt8.toNat_inj.1 (by omega)

theorem lt_irrefl (x : List UInt8) : ¬ x < x := List.lt_irrefl x
theorem lt_tri : ∀ {x y : List UInt8}, ¬ x < y → ¬ y < x → x = y
  | [], [], _, _ => rfl
  | [], _ :: _, h, _ => absurd (List.nil_lt_cons _ _) h
  | _ :: _, [], _, h => absurd (List.nil_lt_cons _ _) h
  | a :: x, b :: y, h1, h2 => by
    rw [List.cons_lt_cons_iff] at h1 h2
    have e : a = b := u8_tri (fun h => h1 (.inl h)) (fun h => h2 (.inl h))
    subst e
    rw [lt_tri (fun h => h1 (.inr ⟨rfl, h⟩)) (fun h => h2 (.inr ⟨rfl, h⟩))]
theorem lt_trans {x y z : List UInt8} (h1 : x < y) (h2 : y < z) : x < z := List.lt_trans h1 h2
theorem lt_asymm {x y : List UInt8} (h1 : x < y) : ¬ y < x := fun h2 => lt_irrefl x (lt_trans h1 h2)
theorem lt_of_not {x y : List UInt8} (h1 : ¬ y < x) (h2 : x ≠ y) : x < y := by
  by_cases h : x < y
  · exact h
  · exact absurd (lt_tri h h1) h2

/-- What a string begins with does not sort behind it. -/
theorem pre_not_lt : ∀ {q p : List UInt8}, q <+: p → ¬ p < q
  | [], _, _ => List.not_lt_nil _
  | a :: q, [], h => by simp at h
  | a :: q, b :: p, h => by
    rw [List.cons_prefix_cons] at h
    obtain ⟨rfl, h⟩ := h
    rw [List.cons_lt_cons_iff]
    rintro (h1 | ⟨_, h1⟩)
    · exact (UInt8.lt_irrefl _) h1
    · exact pre_not_lt h h1

/-- What sorts between a beginning and its string begins with it too. -/
theorem pre_between : ∀ {q r p : List UInt8}, q <+: p → ¬ r < q → ¬ p < r → q <+: r
  | [], _, _, _, _, _ => List.nil_prefix
  | a :: q, _, [], h, _, _ => by simp at h
  | a :: q, [], _ :: _, _, h, _ => absurd (List.nil_lt_cons _ _) h
  | a :: q, c :: r, b :: p, h, h1, h2 => by
    rw [List.cons_prefix_cons] at h
    obtain ⟨rfl, h⟩ := h
    rw [List.cons_lt_cons_iff] at h1 h2
    have e : a = c := u8_tri (fun x => h2 (.inl x)) (fun x => h1 (.inl x))
    subst e
    rw [List.cons_prefix_cons]
    exact ⟨rfl, pre_between h (fun x => h1 (.inr ⟨rfl, x⟩)) (fun x => h2 (.inr ⟨rfl, x⟩))⟩

/-! ### the beginnings, pruned -/
/-- One more beginning: it is kept unless it begins with the last that was kept. -/
def step (Q : List (List UInt8)) (s : List UInt8) : List (List UInt8) :=
  match Q.getLast? with
  | none => [s]
  | some l => if Lib.hasPrefix s l = true then Q else Q ++ [s]
def prune (S : List (List UInt8)) : List (List UInt8) := S.foldl step []

theorem step_none {Q : List (List UInt8)} {s : List UInt8} (h : Q = []) : step Q s = Q ++ [s] := by subst h; rfl
theorem step_keep {Q : List (List UInt8)} {s l : List UInt8} (h : Q.getLast? = some l) (hp : Lib.hasPrefix s l = false) : step Q s = Q ++ [s] := by simp [step, h, hp]
theorem step_drop {Q : List (List UInt8)} {s l : List UInt8} (h : Q.getLast? = some l) (hp : Lib.hasPrefix s l = true) : step Q s = Q := by simp [step, h, hp]

theorem hasPrefix_iff {s p : List UInt8} : Lib.hasPrefix s p = true ↔ p <+: s := by
  unfold Lib.hasPrefix
  exact List.isPrefixOf_iff_prefix

/-- Rising, and none begins with an earlier one. -/
def Free (Q : List (List UInt8)) : Prop := Q.Pairwise (fun a b => a < b ∧ ¬ a <+: b)

/-- What is known of Q, made of the first beginnings S'. -/
structure Good (S' Q : List (List UInt8)) : Prop where
  sub : ∀ q, q ∈ Q → q ∈ S'
  cover : ∀ s, s ∈ S' → ∃ q, q ∈ Q ∧ q <+: s
  free : Free Q

theorem last_ge {Q : List (List UInt8)} {l q : List UInt8} (hf : Free Q) (hl : Q.getLast? = some l) (hq : q ∈ Q) : q = l ∨ (q < l ∧ ¬ q <+: l) := by
  obtain ⟨r, rfl⟩ := List.getLast?_eq_some_iff.1 hl
  rw [List.mem_append] at hq
  rcases hq with hq | hq
  · right
    unfold Free at hf
    rw [List.pairwise_append] at hf
    exact hf.2.2 q hq l (by simp)
  · left; simpa using hq

theorem good_step {S' Q : List (List UInt8)} {s : List UInt8} (h : Good S' Q) (hs : ∀ x, x ∈ S' → ¬ s < x) : Good (S' ++ [s]) (step Q s) := by
  have keep : (∀ q, q ∈ Q → q < s ∧ ¬ q <+: s) → Good (S' ++ [s]) (Q ++ [s]) := by
    intro hk
    refine ⟨?_, ?_, ?_⟩
    · intro q hq
      rw [List.mem_append] at hq ⊢
      rcases hq with hq | hq
      · exact .inl (h.sub q hq)
      · exact .inr hq
    · intro x hx
      rw [List.mem_append] at hx
      rcases hx with hx | hx
      · obtain ⟨q, h1, h2⟩ := h.cover x hx
        exact ⟨q, by simp [h1], h2⟩
      · have : x = s := by simpa using hx
        subst this
        exact ⟨x, by simp, List.prefix_refl x⟩
    · have hf := h.free
      unfold Free at hf ⊢
      rw [List.pairwise_append]
      refine ⟨hf, by simp, fun a ha b hb => ?_⟩
      have : b = s := by simpa using hb
      subst this
      exact hk a ha
  cases hl : Q.getLast? with
  | none =>
    have hQ : Q = [] := by simpa using hl
    rw [step_none hQ]
    exact keep (by rw [hQ]; intro q hq; simp at hq)
  | some l =>
    cases hp : Lib.hasPrefix s l with
    | true =>
      rw [step_drop hl hp]
      refine ⟨fun q hq => by simp [h.sub q hq], fun x hx => ?_, h.free⟩
      rw [List.mem_append] at hx
      rcases hx with hx | hx
      · exact h.cover x hx
      · have : x = s := by simpa using hx
        subst this
        exact ⟨l, List.mem_of_getLast? hl, hasPrefix_iff.1 hp⟩
    | false =>
      rw [step_keep hl hp]
      refine keep (fun q hq => ?_)
      have hnl : ¬ l <+: s := fun x => by rw [hasPrefix_iff.2 x] at hp; cases hp
      have hqs : ¬ s < q := hs q (h.sub q hq)
      have hls : ¬ s < l := hs l (h.sub l (List.mem_of_getLast? hl))
      have hnp : ¬ q <+: s := by
        intro hqp
        rcases last_ge h.free hl hq with e | ⟨h1, h2⟩
        · subst e; exact hnl hqp
        · exact h2 (pre_between hqp (lt_asymm h1) hls)
      refine ⟨lt_of_not hqs (fun e => hnp (by rw [e]; exact List.prefix_refl s)), hnp⟩

/-- Sorted: none sorts before an earlier one. -/
def Sorted (S : List (List UInt8)) : Prop := S.Pairwise (fun a b => ¬ b < a)

theorem prune_snoc (S : List (List UInt8)) (s : List UInt8) : prune (S ++ [s]) = step (prune S) s := by
  unfold prune
  rw [List.foldl_append]
  rfl

theorem prune_good_rev : ∀ (R : List (List UInt8)), Sorted R.reverse → Good R.reverse (prune R.reverse)
  | [], _ => ⟨by intro q hq; simp [prune] at hq, by intro s hs; simp at hs, by simp [prune, Free]⟩
  | s :: R, h => by
    rw [List.reverse_cons] at h ⊢
    unfold Sorted at h
    rw [List.pairwise_append] at h
    rw [prune_snoc]
    exact good_step (prune_good_rev R h.1) (fun x hx => h.2.2 x hx s (by simp))

theorem prune_good (S : List (List UInt8)) (h : Sorted S) : Good S (prune S) := by
  have := prune_good_rev S.reverse (by rw [List.reverse_reverse]; exact h)
  rwa [List.reverse_reverse] at this

/-! ### the search -/
/-- How many sort before p. -/
theorem split_at (p : List UInt8) : ∀ (Q : List (List UInt8)), Sorted Q → ∃ k, k ≤ Q.length ∧ (∀ (t : Nat) q, t < k → Q[t]? = some q → q < p) ∧ (∀ (t : Nat) q, k ≤ t → Q[t]? = some q → ¬ q < p)
  | [], _ => ⟨0, Nat.le_refl _, by intro t q ht; omega, by intro t q _ h; simp at h⟩
  | a :: Q, h => by
    unfold Sorted at h
    rw [List.pairwise_cons] at h
    by_cases ha : a < p
    · obtain ⟨k, h1, h2, h3⟩ := split_at p Q h.2
      refine ⟨k + 1, by simp; omega, fun t q ht hq => ?_, fun t q ht hq => ?_⟩
      · match t with
        | 0 => simp at hq; subst hq; exact ha
        | t + 1 => exact h2 t q (by omega) (by simpa using hq)
      · match t with
        | 0 => omega
        | t + 1 => exact h3 t q (by omega) (by simpa using hq)
    · refine ⟨0, Nat.zero_le _, by intro t q ht; omega, fun t q _ hq => ?_⟩
      match t with
      | 0 => simp at hq; subst hq; exact ha
      | t + 1 =>
        have hm : q ∈ Q := List.mem_of_getElem? (by simpa using hq)
        intro hqp
        have := h.1 q hm
        by_cases hqa : q = a
        · subst hqa; exact ha hqp
        · exact ha (lt_trans (lt_of_not this (Ne.symm hqa)) hqp)

theorem free_sorted : ∀ {Q : List (List UInt8)}, Free Q → Sorted Q
  | [], _ => by simp [Sorted]
  | a :: Q, h => by
    unfold Free at h
    rw [List.pairwise_cons] at h
    have := free_sorted h.2
    unfold Sorted at this ⊢
    rw [List.pairwise_cons]
    exact ⟨fun b hb => lt_asymm (h.1 b hb).1, this⟩

/-- THE SEARCH FINDS A BEGINNING OF p JUST WHERE THERE IS ONE. -/
theorem search {Q : List (List UInt8)} (hf : Free Q) {p : List UInt8} {k : Nat} (hk : k ≤ Q.length) (h1 : ∀ (t : Nat) q, t < k → Q[t]? = some q → q < p) (h2 : ∀ (t : Nat) q, k ≤ t → Q[t]? = some q → ¬ q < p) :
    (∃ q, q ∈ Q ∧ q <+: p) ↔ (Q[k]? = some p ∨ (0 < k ∧ ∃ l, Q[k - 1]? = some l ∧ l <+: p)) := by
  constructor
  · rintro ⟨q, hq, hqp⟩
    obtain ⟨j, hj, hjq⟩ := List.mem_iff_getElem.1 hq
    have hjs : Q[j]? = some q := by rw [List.getElem?_eq_getElem hj, hjq]
    by_cases hlt : q < p
    · -- before p: it must be the last that is
      have hjk : j < k := by
        rcases Nat.lt_or_ge j k with h | h
        · exact h
        · exact absurd hlt (h2 j q h hjs)
      right
      refine ⟨by omega, ?_⟩
      obtain ⟨l, hl⟩ : ∃ l, Q[k - 1]? = some l := ⟨Q[k - 1]'(by omega), by rw [List.getElem?_eq_getElem]⟩
      refine ⟨l, hl, ?_⟩
      by_cases hjl : j = k - 1
      · subst hjl
        rw [hjs] at hl
        cases hl
        exact hqp
      · exfalso
        have hlp : l < p := h1 (k - 1) l (by omega) hl
        have hpw := List.pairwise_iff_getElem.1 hf j (k - 1) hj (by omega) (by omega)
        rw [hjq] at hpw
        have hl' : Q[k - 1]'(by omega) = l := by
          have := List.getElem?_eq_getElem (l := Q) (i := k - 1) (by omega)
          rw [hl] at this
          cases this
          rfl
        rw [hl'] at hpw
        exact hpw.2 (pre_between hqp (lt_asymm hpw.1) (lt_asymm hlp))
    · -- p itself
      have hqe : q = p := lt_tri hlt (pre_not_lt hqp)
      subst hqe
      left
      have hkj : k ≤ j := by
        rcases Nat.lt_or_ge j k with h | h
        · exact absurd (h1 j q h hjs) (lt_irrefl q)
        · exact h
      by_cases hjk : j = k
      · subst hjk; exact hjs
      · exfalso
        have hkl : k < Q.length := by omega
        have hpw := List.pairwise_iff_getElem.1 hf k j hkl hj (by omega)
        rw [hjq] at hpw
        exact h2 k _ (Nat.le_refl _) (List.getElem?_eq_getElem hkl) hpw.1
  · rintro (h | ⟨_, l, hl, hlp⟩)
    · exact ⟨p, List.mem_of_getElem? h, List.prefix_refl p⟩
    · exact ⟨l, List.mem_of_getElem? hl, hlp⟩

/-! ### what an ignored list names -/
def star (e : List UInt8) : Bool := Lib.hasSuffix e [42]
def names (e p : List UInt8) : Bool := e == p || (star e && Lib.hasPrefix p (e.take (e.length - 1)))
def named (ig : List (List UInt8)) (p : List UInt8) : Bool := ig.any fun e => names e p
/-- The beginnings, in the list's order. -/
def prefs (ig : List (List UInt8)) : List (List UInt8) := (ig.filter star).map fun e => e.take (e.length - 1)
/-- The exact ones. -/
def exacts (ig : List (List UInt8)) : List (List UInt8) := ig.filter fun e => !star e

theorem named_iff {ig : List (List UInt8)} {p : List UInt8} : named ig p = true ↔ p ∈ exacts ig ∨ ∃ s, s ∈ prefs ig ∧ s <+: p := by
  unfold named
  rw [List.any_eq_true]
  constructor
  · rintro ⟨e, he, hn⟩
    unfold names at hn
    rw [Bool.or_eq_true] at hn
    cases hst : star e with
    | true =>
      right
      refine ⟨e.take (e.length - 1), ?_, ?_⟩
      · unfold prefs
        exact List.mem_map.2 ⟨e, List.mem_filter.2 ⟨he, hst⟩, rfl⟩
      · rcases hn with hn | hn
        · have : e = p := by simpa using hn
          subst this
          exact List.take_prefix _ _
        · rw [Bool.and_eq_true] at hn
          exact hasPrefix_iff.1 hn.2
    | false =>
      left
      rcases hn with hn | hn
      · have : e = p := by simpa using hn
        subst this
        exact List.mem_filter.2 ⟨he, by simp [hst]⟩
      · rw [hst] at hn; simp at hn
  · rintro (h | ⟨s, hs, hp⟩)
    · obtain ⟨h1, h2⟩ := List.mem_filter.1 h
      exact ⟨p, h1, by simp [names]⟩
    · unfold prefs at hs
      obtain ⟨e, he, rfl⟩ := List.mem_map.1 hs
      obtain ⟨h1, h2⟩ := List.mem_filter.1 he
      exact ⟨e, h1, by simp [names, h2, hasPrefix_iff.2 hp]⟩

/-- The beginnings sorted and pruned name the same. -/
theorem named_pruned {ig S : List (List UInt8)} {p : List UInt8} (hS : Sorted S) (hm : ∀ s, s ∈ S ↔ s ∈ prefs ig) : named ig p = true ↔ p ∈ exacts ig ∨ ∃ q, q ∈ prune S ∧ q <+: p := by
  rw [named_iff]
  have hg := prune_good S hS
  constructor
  · rintro (h | ⟨s, hs, hp⟩)
    · exact .inl h
    · obtain ⟨q, hq, hqs⟩ := hg.cover s ((hm s).2 hs)
      exact .inr ⟨q, hq, List.IsPrefix.trans hqs hp⟩
  · rintro (h | ⟨q, hq, hp⟩)
    · exact .inl h
    · exact .inr ⟨q, (hm q).1 (hg.sub q hq), hp⟩

end Go.Proofs.Qxb6617078a.Pl
