/-
  slices.Compact on a row of the call's own, and the bookkeeping of InputImports' loop.
-/
import Derived.Test.Qxb6617078aConcat
import Derived.Test.Qxb6617078aOut
namespace Go.Proofs.Qxb6617078a
open Go.RowKit Go.Sort

/-- A shorter slice of the same row. -/
theorem own_shrink {w : World} {base g cap n m : Nat} {xs : List Value} (h : w.ownsRow base 9 1 (.slice (some ⟨g, 0, none⟩) n cap) n xs) (hm : m ≤ n) : w.ownsRow base 9 1 (.slice (some ⟨g, 0, none⟩) m cap) m (xs.take m) := by
  obtain ⟨h0, h1⟩ := h
  refine ⟨by simp at h0 ⊢; omega, ?_⟩
  rcases h1 with ⟨hv, _⟩ | ⟨g', cap', cur, hv, hb, hg, h2, h3, h4, h5⟩
  · cases hv
  · cases hv
    refine .inr ⟨g, cap, cur, rfl, hb, hg, by omega, h3, h4, ?_⟩
    rw [← h5, List.take_take]
    congr 1
    omega

theorem compact_own {w : World} {base : Nat} {v : Value} {ds : List ByteArray} (h : w.ownsRow base 9 1 v ds.length (ds.map Value.string)) (hs : Pl.Sorted (ds.map D)) (hl : ds.length ≤ 8388608) :
    Calls Try.prog 25 #[v] w fun e w' => ∃ v', e = .returned v' ∧ w'.ownsRow base 9 1 v' (compactB ds).length ((compactB ds).map Value.string) ∧ w.grownBy w' v.ownBlock := by
  rcases h.2 with ⟨rfl, h0⟩ | ⟨g, cap, cur, rfl, hbase, hb, h1, h2, h3, h4⟩
  · have : ds = [] := List.length_eq_zero_iff.1 h0
    subst this
    refine (Try.slices_Compact_string_empty none 0 w).mono fun e w' ⟨he, hw⟩ => ?_
    subst hw
    exact ⟨_, he, World.ownsRow_nil _ _ _ _, ⟨rfl, rfl, rfl, Nat.le_refl _, fun _ _ _ => rfl⟩⟩
  · have hlen : (ds.map D).length = ds.length := by simp
    have hH : Holds encStr w g 0 (ds.map D).toArray := holds_of_block hb (by rw [map_string, hlen]; simpa using h4)
    have hcon := Try.slices_Compact_string g 0 cap (ds.map D) w hH (by rw [hlen]; omega) (by rw [hlen]; exact h1)
    rw [hlen] at hcon
    refine hcon.mono fun e w' ⟨he, q, hw⟩ => ⟨_, he, ?_, ?_⟩
    · have hcl : (Lib.compact (ds.map D)).length ≤ ds.length := by have := Pl.compact_len hs; rw [hlen] at this; exact this
      have h5 := ownsRow_sorted (n := q) (os := #[]) (ss := ds.map D) (ts := Lib.compact (ds.map D) ++ List.replicate (ds.length - (Lib.compact (ds.map D)).length) []) (by simp; omega) hbase hb (by rw [hlen]; exact h1) h2 h3
      rw [hlen, grow_empty, ← hw] at h5
      have h6 := own_shrink h5 hcl
      rw [List.map_append, List.take_append_of_le_length (by simp), List.take_of_length_le (by simp), map_enc] at h6
      have h7 : (compactB ds).length = (Lib.compact (ds.map D)).length := by simp [compactB]
      rw [h7]
      exact h6
    · have h5 := grownBy_sorted (w := w) (g := g) (n := q) (os := #[]) (Lib.compact (ds.map D) ++ List.replicate (ds.length - (Lib.compact (ds.map D)).length) []).toArray
      rw [grow_empty, ← hw] at h5
      exact h5

/-- What comes back: a slice of the call's own that holds xs. -/
def Owned (w : World) (xs : List ByteArray) (e : Ending) (w' : World) : Prop := ∃ v, e = .returned v ∧ w'.ownsRow w.heap.size 9 1 v xs.length (xs.map Value.string) ∧ Below w.heap.size w w'

theorem own_below {w w' : World} {base : Nat} {v : Value} {n : Nat} {xs : List Value} (h : w.ownsRow base 9 1 v n xs) (hb : Below w.heap.size w w') : w'.ownsRow base 9 1 v n xs := by
  obtain ⟨h0, h1⟩ := h
  refine ⟨h0, ?_⟩
  rcases h1 with ⟨hv, hn⟩ | ⟨g, cap, cur, hv, hbase, hg, h2⟩
  · exact .inl ⟨hv, hn⟩
  · refine .inr ⟨g, cap, cur, hv, hbase, ?_, h2⟩
    rw [hb.block g]
    · exact hg
    · exact (Array.getElem?_eq_some_iff.1 hg).1

structure InvI (w1 : World) (ig all : List ByteArray) (k : Nat) (iv : Value) (F : List ByteArray) (wr : World) : Prop where
  kept : F = keptB ig (all.take k)
  owns : wr.ownsRow w1.heap.size 9 1 iv F.length (F.map Value.string)
  below : Below w1.heap.size w1 wr

theorem kept_yes {ig all : List ByteArray} {k : Nat} {p : ByteArray} (h : all[k]? = some p) (hn : named ig p = false) : keptB ig (all.take (k + 1)) = keptB ig (all.take k) ++ [p] := by
  rw [List.take_add_one, h]
  simp [keptB, List.filter_append, hn]
theorem kept_no {ig all : List ByteArray} {k : Nat} {p : ByteArray} (h : all[k]? = some p) (hn : named ig p = true) : keptB ig (all.take (k + 1)) = keptB ig (all.take k) := by
  rw [List.take_add_one, h]
  simp [keptB, List.filter_append, hn]

end Go.Proofs.Qxb6617078a
