/-
  THE PLAIN LAWS on lists of strings that the two laws on peers want: the first place of a string; the distinct ones in the order first met. No Go in sight.
-/
namespace Go.Proofs.Qxb6616555a.Pl

/-- Where s first stands in the list. -/
def pos : List ByteArray → ByteArray → Option Nat
  | [], _ => none
  | d :: ds, s => if d = s then some 0 else (pos ds s).map (· + 1)

theorem pos_some : ∀ {ds : List ByteArray} {s : ByteArray} {i : Nat}, pos ds s = some i → i < ds.length ∧ ds[i]? = some s
  | [], s, i, h => by cases h
  | d :: ds, s, i, h => by
    unfold pos at h
    split at h
    · rename_i e; cases h; subst e; simp
    · cases hp : pos ds s with
      | none => rw [hp] at h; cases h
      | some j =>
        rw [hp] at h
        cases h
        obtain ⟨h1, h2⟩ := pos_some hp
        exact ⟨by simp; omega, by simpa using h2⟩

theorem pos_first : ∀ {ds : List ByteArray} {s : ByteArray} {i : Nat}, pos ds s = some i → ∀ j, j < i → ds[j]? ≠ some s
  | [], s, i, h => by cases h
  | d :: ds, s, i, h => by
    unfold pos at h
    split at h
    · cases h; intro j hj; omega
    · rename_i hne
      cases hp : pos ds s with
      | none => rw [hp] at h; cases h
      | some k =>
        rw [hp] at h
        cases h
        intro j hj
        match j with
        | 0 => simpa using hne
        | j + 1 => simpa using pos_first hp j (by simp at hj; omega)

theorem pos_none : ∀ {ds : List ByteArray} {s : ByteArray}, pos ds s = none → ∀ j : Nat, ds[j]? ≠ some s
  | [], s, _, j => by simp
  | d :: ds, s, h, j => by
    unfold pos at h
    split at h
    · cases h
    · rename_i hne
      cases hp : pos ds s with
      | some k => rw [hp] at h; cases h
      | none =>
        match j with
        | 0 => simpa using hne
        | j + 1 => simpa using pos_none hp j

/-- The first place, from what a search finds. -/
theorem pos_of : ∀ {ds : List ByteArray} {s : ByteArray} {i : Nat}, ds[i]? = some s → (∀ j, j < i → ds[j]? ≠ some s) → pos ds s = some i
  | [], s, i, h, _ => by simp at h
  | d :: ds, s, 0, h, _ => by
    simp at h; subst h; simp [pos]
  | d :: ds, s, i + 1, h, hf => by
    have h0 : ¬ d = s := by simpa using hf 0 (by omega)
    have := pos_of (ds := ds) (s := s) (i := i) (by simpa using h) (fun j hj => by simpa using hf (j + 1) (by omega))
    simp [pos, h0, this]

theorem pos_none_of : ∀ {ds : List ByteArray} {s : ByteArray}, (∀ j, j < ds.length → ds[j]? ≠ some s) → pos ds s = none
  | [], s, _ => rfl
  | d :: ds, s, hf => by
    have h0 : ¬ d = s := by simpa using hf 0 (by simp)
    have := pos_none_of (ds := ds) (s := s) (fun j hj => by simpa using hf (j + 1) (by simp; omega))
    simp [pos, h0, this]

/-- One more at the end. -/
theorem pos_snoc : ∀ {ds : List ByteArray} {s : ByteArray} (t : ByteArray), pos ds s = none → pos (ds ++ [s]) t = if t = s then some ds.length else pos ds t
  | [], s, t, _ => by
    by_cases h : t = s
    · simp [pos, h]
    · simp [pos, h, Ne.symm h]
  | d :: ds, s, t, h => by
    unfold pos at h
    split at h
    · cases h
    · rename_i hne
      have hn : pos ds s = none := by
        cases hp : pos ds s with
        | some k => rw [hp] at h; cases h
        | none => rfl
      simp only [List.cons_append, pos]
      rw [pos_snoc t hn]
      by_cases hd : d = t
      · subst hd; simp [hne]
      · by_cases ht : t = s
        · simp [ht, hne]
        · simp [hd, ht]

/-- The distinct ones, in the order first met. -/
def dist (l : List ByteArray) : List ByteArray := l.foldl (fun ds s => if (pos ds s).isSome = true then ds else ds ++ [s]) []

theorem dist_snoc (l : List ByteArray) (s : ByteArray) : dist (l ++ [s]) = if (pos (dist l) s).isSome = true then dist l else dist l ++ [s] := by
  unfold dist
  rw [List.foldl_append]
  rfl

theorem dist_take {l : List ByteArray} {k : Nat} {s : ByteArray} (h : l[k]? = some s) : dist (l.take (k + 1)) = if (pos (dist (l.take k)) s).isSome = true then dist (l.take k) else dist (l.take k) ++ [s] := by
  rw [← dist_snoc, List.take_add_one, h]
  rfl

/-- No string twice. -/
def Once (ds : List ByteArray) : Prop := ∀ j s, ds[j]? = some s → pos ds s = some j

theorem once_nil : Once [] := by intro j s h; simp at h

theorem once_snoc {ds : List ByteArray} {s : ByteArray} (h : Once ds) (hs : pos ds s = none) : Once (ds ++ [s]) := by
  intro j t hj
  rw [pos_snoc t hs]
  by_cases hlt : j < ds.length
  · rw [List.getElem?_append_left hlt] at hj
    have hne : ¬ t = s := by intro e; subst e; exact pos_none hs j hj
    rw [if_neg hne]
    exact h j t hj
  · rw [List.getElem?_append_right (by omega)] at hj
    have h0 : j - ds.length = 0 := by
      rcases Nat.eq_zero_or_pos (j - ds.length) with h0 | h0
      · exact h0
      · rw [List.getElem?_eq_none (by simp; omega)] at hj; cases hj
    rw [h0] at hj
    simp at hj
    subst hj
    rw [if_pos rfl]
    congr 1
    omega

end Go.Proofs.Qxb6616555a.Pl
