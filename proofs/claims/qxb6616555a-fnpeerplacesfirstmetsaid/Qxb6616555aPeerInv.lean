/-
  WHAT HOLDS AT THE HEAD OF EACH ROUND of the loop that hands the ids to the builder: outside the walk.
-/
import Derived.Test.Qxb6616555aPeerBytes
namespace Go.Proofs.Qxb6616555a
open Go.RowKit

theorem Bld.keep {base nb mb : Nat} {w w' : World} {v : Value} {ds : List ByteArray} (h : Bld base nb mb w v ds) {row : Option Nat} (hg : w.grownBy w' row) (h1 : some nb ≠ row) (h2 : some mb ≠ row) (h3 : v.ownBlock = none ∨ v.ownBlock ≠ row) : Bld base nb mb w' v ds :=
  ⟨h.nbLt, h.mbLt, Nat.le_trans h.le hg.size, h.ne, hg.cell h.cellIds h1, (hg.frozen_far ⟨nb, 9, none⟩ (Nat.lt_of_lt_of_le h.nbLt h.le) h1).trans h.frz, hg.cell h.cellIdx h1, h.owns.kept hg h3, h.isMap.grown hg h2⟩

theorem Bld.at {base nb mb : Nat} {w : World} {v : Value} {ds : List ByteArray} (h : Bld base nb mb w v ds) {i : Nat} {s : ByteArray} (hs : ds[i]? = some s) : ∃ g cap, v = .slice (some ⟨g, 0, none⟩) ds.length cap ∧ w.cell? ⟨g, i, none⟩ = some (.string s) := by
  rcases row_of_owns h.owns with ⟨a, c, _, rfl⟩ | ⟨b, off, cap, hv, hc⟩
  · simp at hs
  · have hlen : 0 < ds.length := by
      rcases Nat.eq_zero_or_pos ds.length with h0 | h0
      · rw [List.length_eq_zero_iff.1 h0] at hs; simp at hs
      · exact h0
    obtain ⟨g, cap', hv', _⟩ := h.owns.form hlen
    rw [hv'] at hv
    cases hv
    exact ⟨_, _, hv', by simpa using hc i s hs⟩

/-- The row of a slice that no other piece of memory shares is as it was. -/
theorem row_kept {S : Nat → Prop} {base : Nat} {w w' : World} {v : Value} {n : Nat} {xs : List Value} (h : w.ownsRow base 9 1 v n xs) (hc : Chg S w w') (hs : ∀ k, v.ownBlock = some k → ¬ S k) : w'.ownsRow base 9 1 v n xs := by
  refine ⟨h.1, ?_⟩
  rcases h.2 with hn | ⟨g, cap, cur, rfl, hb, hg, rest⟩
  · exact .inl hn
  · refine .inr ⟨g, cap, cur, rfl, hb, ?_, rest⟩
    rw [hc.block g (Array.getElem?_eq_some_iff.1 hg).1 (hs g rfl)]
    exact hg

/-- AFTER k ROUNDS: the builder has met, and the slice d holds, the distinct ones among the first k ids. -/
def Inv (w : World) (ids : List ByteArray) (k : Nat) (d : Value) (wr : World) : Prop :=
  ∃ vb, Bld (w.heap.size + 2) (w.heap.size + 1) w.heap.size wr vb (Pl.dist (ids.take k)) ∧
    wr.ownsRow (w.heap.size + 2) 9 1 d (Pl.dist (ids.take k)).length ((Pl.dist (ids.take k)).map Value.string) ∧
    (d.ownBlock = none ∨ d.ownBlock ≠ vb.ownBlock) ∧ Below w.heap.size w wr ∧ Pl.Once (Pl.dist (ids.take k)) ∧ (Pl.dist (ids.take k)).length ≤ k

theorem inv_start (w : World) (ids : List ByteArray) : Inv w ids 0 (.slice none 0 0)
    ((w.alloc (.map #[] 0)).alloc (.cells #[.int .i64 0, .int .i64 0, .int .i64 0, .int .i64 0, .int .i64 0, .int .i64 0, .int .i64 0, .int .i64 0, .int .i64 0, .slice none 0 0, .map (some w.heap.size), .slice none 0 0] 56)) :=
  ⟨.slice none 0 0, bld_new w, World.ownsRow_nil _ _ _ _, .inl rfl, ((Below.refl _ _).alloc (Nat.le_refl _) _).alloc (by simp) _, Pl.once_nil, Nat.le_refl _⟩

/-- An id that was met. -/
theorem inv_old {w wr : World} {ids : List ByteArray} {k : Nat} {d : Value} {s : ByteArray} {i : Nat} (h : Inv w ids k d wr) (hs : ids[k]? = some s) (hp : Pl.pos (Pl.dist (ids.take k)) s = some i) : Inv w ids (k + 1) d wr := by
  have e : Pl.dist (ids.take (k + 1)) = Pl.dist (ids.take k) := by rw [Pl.dist_take hs, hp]; simp
  unfold Inv
  rw [e]
  obtain ⟨vb, h1, h2, h3, h4, h5, h6⟩ := h
  exact ⟨vb, h1, h2, h3, h4, h5, by omega⟩

/-- What a call of peer leaves of the rest. -/
theorem mine_far {w wr : World} {vb : Value} {ds : List ByteArray} (h1 : Bld (w.heap.size + 2) (w.heap.size + 1) w.heap.size wr vb ds) : ∀ k, k < w.heap.size → ¬ Mine (w.heap.size + 1) w.heap.size vb k := by
  intro k hk hm
  rcases hm with rfl | rfl | hm
  · omega
  · omega
  · have := (h1.owns.lt k hm).1; omega

theorem mine_row {w wr : World} {vb d : Value} {ds : List ByteArray} {n : Nat} {xs : List Value} (_h1 : Bld (w.heap.size + 2) (w.heap.size + 1) w.heap.size wr vb ds) (h2 : wr.ownsRow (w.heap.size + 2) 9 1 d n xs) (h3 : d.ownBlock = none ∨ d.ownBlock ≠ vb.ownBlock) :
    ∀ k, d.ownBlock = some k → ¬ Mine (w.heap.size + 1) w.heap.size vb k := by
  intro k hk hm
  have hb := (h2.lt k hk).1
  rcases hm with rfl | rfl | hm
  · omega
  · omega
  · rcases h3 with h3 | h3
    · rw [h3] at hk; cases hk
    · exact h3 (by rw [hk, hm])

/-- A new id: behind the call of peer, and behind the append. -/
theorem inv_new {w wr w1 w2 : World} {ids : List ByteArray} {k : Nat} {d vb vb' : Value} {s : ByteArray} {ds : List ByteArray} (hds : Pl.dist (ids.take k) = ds) (hs : ids[k]? = some s) (hp : Pl.pos ds s = none)
    (h1 : Bld (w.heap.size + 2) (w.heap.size + 1) w.heap.size wr vb ds) (h2 : wr.ownsRow (w.heap.size + 2) 9 1 d ds.length (ds.map Value.string)) (h3 : d.ownBlock = none ∨ d.ownBlock ≠ vb.ownBlock) (h4 : Below w.heap.size w wr) (h5 : Pl.Once ds) (h6 : ds.length ≤ k)
    (k1 : Bld (w.heap.size + 2) (w.heap.size + 1) w.heap.size w1 vb' (ds ++ [s])) (k2 : Chg (Mine (w.heap.size + 1) w.heap.size vb) wr w1) (k3 : vb'.ownBlock = vb.ownBlock ∨ ∃ g, vb'.ownBlock = some g ∧ wr.heap.size ≤ g)
    {g cap H : Nat} (hH : w1.heap.size < H) (a1 : w2.ownsRow (w.heap.size + 2) 9 1 (.slice (some ⟨g, 0, none⟩) (ds.length + 1) cap) (ds.length + 1) (ds.map Value.string ++ [.string s])) (a2 : w1.grownBy w2 d.ownBlock) (a3 : d.ownBlock = some g ∨ g = H) :
    Inv w ids (k + 1) (.slice (some ⟨g, 0, none⟩) (ds.length + 1) cap) w2 := by
  have e : Pl.dist (ids.take (k + 1)) = ds ++ [s] := by rw [Pl.dist_take hs, hds, hp]; simp
  have hd1 : ∀ j, d.ownBlock = some j → w.heap.size + 2 ≤ j ∧ j < wr.heap.size := h2.lt
  have hnb : some (w.heap.size + 1) ≠ d.ownBlock := fun x => by have := (hd1 _ x.symm).1; omega
  have hmb : some w.heap.size ≠ d.ownBlock := fun x => by have := (hd1 _ x.symm).1; omega
  have hvb : vb'.ownBlock = none ∨ vb'.ownBlock ≠ d.ownBlock := by
    right
    intro x
    rcases k3 with k3 | ⟨j, k3, hj⟩
    · rcases h3 with h3 | h3
      · rw [k3] at x
        rw [h3] at x
        -- both are nil slices: the builder's slice cannot be nil behind the call
        obtain ⟨g', cap', hv', _⟩ := k1.owns.form (by simp)
        rw [hv', x] at k3
        simp [Value.ownBlock] at k3
      · exact h3 (by rw [← x, k3])
    · rw [k3] at x
      have := (hd1 j x.symm).2
      omega
  have hwr : w.heap.size + 2 ≤ wr.heap.size := h1.le
  refine ⟨vb', ?_, ?_, ?_, ?_, ?_, ?_⟩
  · rw [e]
    exact k1.keep a2 hnb hmb hvb
  · rw [e]
    simpa using a1
  · right
    intro x
    rcases a3 with a3 | a3
    · rcases hvb with hvb | hvb
      · rw [hvb] at x; cases x
      · exact hvb (by rw [a3, ← x]; rfl)
    · subst a3
      have := (k1.owns.lt g x.symm).2
      omega
  · have hb1 : Below w.heap.size w w1 := Chg.below h4 k2 (by omega) (mine_far h1)
    exact hb1.grown a2 (by have := k1.le; omega) (fun j hj => by have := (hd1 j hj).1; omega)
  · rw [e]
    exact Pl.once_snoc h5 hp
  · rw [e]
    simp
    omega

end Go.Proofs.Qxb6616555a
