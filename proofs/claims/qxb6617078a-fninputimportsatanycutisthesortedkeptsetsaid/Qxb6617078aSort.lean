/-
  THE SORT AT A SLICE OF THE CALL's OWN; what holds at the head of each round of Ignoring's two loops: outside the walk.
-/
import Derived.Test.Qxb6617078aIgnores
import Derived.Sort.OwnSorted
namespace Go.Proofs.Qxb6617078a
open Go.RowKit Go.Sort

def sortB (ds : List ByteArray) : List ByteArray := ((ds.map D).mergeSort fun x y => decide (x ≤ y)).map S

theorem sortB_length (ds : List ByteArray) : (sortB ds).length = ds.length := by simp [sortB]
theorem map_D_S (l : List (List UInt8)) : (l.map S).map D = l := by
  rw [List.map_map]
  have : (D ∘ S) = id := by funext x; exact D_S x
  rw [this, List.map_id]
theorem sortB_D (ds : List ByteArray) : (sortB ds).map D = (ds.map D).mergeSort fun x y => decide (x ≤ y) := map_D_S _
theorem sortB_sorted (ds : List ByteArray) : Pl.Sorted ((sortB ds).map D) := by
  rw [sortB_D]
  unfold Pl.Sorted
  have h := List.pairwise_mergeSort (le := fun x y : List UInt8 => decide (x ≤ y)) (by
    intro a b c h1 h2
    simp only [decide_eq_true_eq] at h1 h2 ⊢
    exact List.le_trans h1 h2) (by
    intro a b
    simp only [Bool.or_eq_true, decide_eq_true_eq]
    exact List.le_total a b) (ds.map D)
  refine List.pairwise_iff_getElem.2 (fun i j hi hj hij => ?_)
  have := List.pairwise_iff_getElem.1 h i j hi hj hij
  simp only [decide_eq_true_eq] at this
  exact List.not_lt.2 this
theorem sortB_mem (ds : List ByteArray) (s : List UInt8) : s ∈ (sortB ds).map D ↔ s ∈ ds.map D := by
  rw [sortB_D]
  exact List.mem_mergeSort

theorem map_string (ds : List ByteArray) : (ds.map D).map encStr = ds.map Value.string := by
  rw [List.map_map]
  refine List.map_congr_left (fun s _ => ?_)
  show Value.string (S (D s)) = _
  rw [S_D]
theorem map_enc (l : List (List UInt8)) : l.map encStr = (l.map S).map Value.string := by
  rw [List.map_map]
  rfl

theorem sort_own {w : World} {base : Nat} {v : Value} {ds : List ByteArray} (h : w.ownsRow base 9 1 v ds.length (ds.map Value.string)) (hl : ds.length < 4611686018427387904) :
    Calls Try.prog 24 #[v] w fun e w' => e = .returned (.tuple #[]) ∧ w'.ownsRow base 9 1 v ds.length ((sortB ds).map Value.string) ∧ w.grownBy w' v.ownBlock := by
  rcases h.2 with ⟨rfl, h0⟩ | ⟨g, cap, cur, rfl, hbase, hb, h1, h2, h3, h4⟩
  · have : ds = [] := List.length_eq_zero_iff.1 h0
    subst this
    refine (Try.slices_Sort_string_none none 0 w).mono fun e w' ⟨he, hw⟩ => ?_
    subst hw
    have e0 : sortB [] = [] := by simp [sortB]
    rw [e0]
    exact ⟨he, World.ownsRow_nil _ _ _ _, ⟨rfl, rfl, rfl, Nat.le_refl _, fun _ _ _ => rfl⟩⟩
  · have hlen : (ds.map D).length = ds.length := by simp
    have hH : Holds encStr w g 0 (ds.map D).toArray := holds_of_block hb (by rw [map_string, hlen]; simpa using h4)
    have hcon := Try.slices_Sort_string g 0 cap (ds.map D) w hH (Array.getElem?_eq_some_iff.1 hb).1 (by rw [hlen]; exact hl)
    rw [hlen] at hcon
    refine hcon.mono fun e w' ⟨he, n, os, hw⟩ => ?_
    subst hw
    refine ⟨he, ?_, grownBy_sorted _⟩
    have h5 := ownsRow_sorted (n := n) (os := os) (ss := ds.map D) (ts := (ds.map D).mergeSort fun x y => decide (x ≤ y)) (by simp) hbase hb (by rw [hlen]; exact h1) h2 h3
    rw [hlen, map_enc] at h5
    exact h5

/-! ### the first loop -/
structure Inv1 (w : World) (ig : List ByteArray) (k : Nat) (pv : Value) (P : List ByteArray) (wr : World) : Prop where
  prefs : P.map D = Pl.prefs ((ig.take k).map D)
  owns : wr.ownsRow (w.heap.size + 3) 9 1 pv P.length (P.map Value.string)
  isMap : SM.IsMap wr (w.heap.size + 1) (exFn (ig.take k))
  res : wr.heap[w.heap.size]? = some (.cells #[.map none, .slice none 0 0] 44)
  var : wr.heap[w.heap.size + 2]? = some (.cells #[.map (some (w.heap.size + 1)), .slice none 0 0] 44)
  below : Below w.heap.size w wr
  size : w.heap.size + 3 ≤ wr.heap.size
  le : P.length ≤ k

theorem prefs_star {ig : List ByteArray} {k : Nat} {e : ByteArray} (h : ig[k]? = some e) (hs : Pl.star (D e) = true) : Pl.prefs ((ig.take (k + 1)).map D) = Pl.prefs ((ig.take k).map D) ++ [(D e).take ((D e).length - 1)] := by
  rw [List.take_add_one, h]
  simp [Pl.prefs, List.filter_append, hs]
theorem prefs_plain {ig : List ByteArray} {k : Nat} {e : ByteArray} (h : ig[k]? = some e) (hs : Pl.star (D e) = false) : Pl.prefs ((ig.take (k + 1)).map D) = Pl.prefs ((ig.take k).map D) := by
  rw [List.take_add_one, h]
  simp [Pl.prefs, List.filter_append, hs]
theorem exacts_star {ig : List ByteArray} {k : Nat} {e : ByteArray} (h : ig[k]? = some e) (hs : Pl.star (D e) = true) : Pl.exacts ((ig.take (k + 1)).map D) = Pl.exacts ((ig.take k).map D) := by
  rw [List.take_add_one, h]
  simp [Pl.exacts, List.filter_append, hs]
theorem exacts_plain {ig : List ByteArray} {k : Nat} {e : ByteArray} (h : ig[k]? = some e) (hs : Pl.star (D e) = false) : Pl.exacts ((ig.take (k + 1)).map D) = Pl.exacts ((ig.take k).map D) ++ [D e] := by
  rw [List.take_add_one, h]
  simp [Pl.exacts, List.filter_append, hs]

theorem inv1_start (w : World) (ig : List ByteArray) (w0 : World) (hw : w0 = ((w.alloc (.cells #[.map none, .slice none 0 0] 44)).alloc (.map #[] 0)).alloc (.cells #[.map (some (w.heap.size + 1)), .slice none 0 0] 44)) : Inv1 w ig 0 (.slice none 0 0) [] w0 := by
  subst hw
  refine ⟨rfl, World.ownsRow_nil _ _ _ _, ?_, ?_, ?_, (((Below.refl _ _).alloc (Nat.le_refl _) _).alloc (by simp) _).alloc (by simp; omega) _, by simp, Nat.le_refl _⟩
  · have h := (SM.made (w.alloc (.cells #[.map none, .slice none 0 0] 44))).alloc (.cells #[.map (some (w.heap.size + 1)), .slice none 0 0] 44)
    rw [World.size_alloc] at h
    exact h
  · rw [Below.heap_alloc _ _ _ (by simp; omega), Below.heap_alloc _ _ _ (by simp)]
    exact (MapKept.heap_alloc w _).1
  · have h := (MapKept.heap_alloc ((w.alloc (.cells #[.map none, .slice none 0 0] 44)).alloc (.map #[] 0)) (.cells #[.map (some (w.heap.size + 1)), .slice none 0 0] 44)).1
    simpa using h

theorem inv1_star {w wr w2 : World} {ig P : List ByteArray} {k : Nat} {pv : Value} {e t : ByteArray} (h : Inv1 w ig k pv P wr) (he : ig[k]? = some e) (hs : Pl.star (D e) = true) (ht : D t = (D e).take ((D e).length - 1))
    {g cap : Nat} (a1 : w2.ownsRow (w.heap.size + 3) 9 1 (.slice (some ⟨g, 0, none⟩) (P.length + 1) cap) (P.length + 1) (P.map Value.string ++ [.string t])) (a2 : wr.grownBy w2 pv.ownBlock) :
    Inv1 w ig (k + 1) (.slice (some ⟨g, 0, none⟩) (P.length + 1) cap) (P ++ [t]) w2 := by
  have hr := h.owns.lt
  have far : ∀ j, j < w.heap.size + 3 → some j ≠ pv.ownBlock := fun j hj x => by have := (hr j x.symm).1; omega
  have hsz := h.size
  refine ⟨?_, by simpa using a1, ?_, ?_, ?_, ?_, by have := a2.size; omega, by have := h.le; simp; omega⟩
  · rw [prefs_star he hs, ← h.prefs, List.map_append, ← ht]; rfl
  · have e1 : exFn (ig.take (k + 1)) = exFn (ig.take k) := by funext s; unfold exFn; rw [exacts_star he hs]
    rw [e1]
    exact h.isMap.grown a2 (far _ (by omega))
  · exact (a2.block _ (by omega) (far _ (by omega))).trans h.res
  · exact (a2.block _ (by omega) (far _ (by omega))).trans h.var
  · exact h.below.grown a2 (by omega) (fun j hj => by have := (hr j hj).1; omega)

theorem inv1_plain {w wr w2 : World} {ig P : List ByteArray} {k : Nat} {pv : Value} {e : ByteArray} (h : Inv1 w ig k pv P wr) (he : ig[k]? = some e) (hs : Pl.star (D e) = false)
    (m : SM.IsMap w2 (w.heap.size + 1) (fun x => if x = e then some (.bool true) else exFn (ig.take k) x)) (a2 : wr.grownBy w2 (some (w.heap.size + 1))) :
    Inv1 w ig (k + 1) pv P w2 := by
  have hr := h.owns.lt
  have hsz := h.size
  refine ⟨?_, ?_, ?_, ?_, ?_, ?_, by have := a2.size; omega, by have := h.le; omega⟩
  · rw [prefs_plain he hs, ← h.prefs]
  · exact h.owns.kept a2 (by right; intro x; have := (hr _ x).1; omega)
  · have e1 : (fun x => if x = e then some (.bool true) else exFn (ig.take k) x) = exFn (ig.take (k + 1)) := by
      funext s
      unfold exFn
      rw [exacts_plain he hs]
      by_cases hse : s = e
      · subst hse; simp
      · have hne : ¬ D s = D e := fun x => hse (D_inj x)
        simp [hse, hne]
    rw [← e1]
    exact m
  · exact (a2.block _ (by omega) (by simp)).trans h.res
  · exact (a2.block _ (by omega) (by simp)).trans h.var
  · exact h.below.grown a2 (by omega) (fun j hj => by cases hj; omega)

/-! ### the second loop -/
structure Inv2 (w : World) (ig T : List ByteArray) (pv : Value) (k : Nat) (qv : Value) (Q : List ByteArray) (wr : World) : Prop where
  pruned : Q.map D = Pl.prune ((T.take k).map D)
  owns : wr.ownsRow (w.heap.size + 3) 9 1 qv Q.length (Q.map Value.string)
  ownsP : wr.ownsRow (w.heap.size + 3) 9 1 pv T.length (T.map Value.string)
  apart : qv.ownBlock = none ∨ qv.ownBlock ≠ pv.ownBlock
  isMap : SM.IsMap wr (w.heap.size + 1) (exFn ig)
  res : wr.heap[w.heap.size]? = some (.cells #[.map none, .slice none 0 0] 44)
  var : wr.heap[w.heap.size + 2]? = some (.cells #[.map (some (w.heap.size + 1)), qv] 44)
  below : Below w.heap.size w wr
  size : w.heap.size + 3 ≤ wr.heap.size
  le : Q.length ≤ k

theorem inv2_start {w wr w2 : World} {ig P : List ByteArray} {pv : Value} (h : Inv1 w ig ig.length pv P wr) (a1 : w2.ownsRow (w.heap.size + 3) 9 1 pv P.length ((sortB P).map Value.string)) (a2 : wr.grownBy w2 pv.ownBlock) :
    Inv2 w ig (sortB P) pv 0 (.slice none 0 0) [] w2 := by
  have hr := h.owns.lt
  have far : ∀ j, j < w.heap.size + 3 → some j ≠ pv.ownBlock := fun j hj x => by have := (hr j x.symm).1; omega
  have hsz := h.size
  have hm := h.isMap
  rw [List.take_length] at hm
  exact ⟨rfl, World.ownsRow_nil _ _ _ _, by rw [sortB_length]; exact a1, .inl rfl, hm.grown a2 (far _ (by omega)), (a2.block _ (by omega) (far _ (by omega))).trans h.res, (a2.block _ (by omega) (far _ (by omega))).trans h.var,
    h.below.grown a2 (by omega) (fun j hj => by have := (hr j hj).1; omega), by have := a2.size; omega, Nat.le_refl _⟩

theorem prune_take {T Q : List ByteArray} {k : Nat} {s : ByteArray} (h : T[k]? = some s) (hq : Q.map D = Pl.prune ((T.take k).map D)) : Pl.prune ((T.take (k + 1)).map D) = Pl.step (Q.map D) (D s) := by
  rw [List.take_add_one, h, hq, ← Pl.prune_snoc]
  simp

theorem inv2_drop {w wr : World} {ig T Q : List ByteArray} {pv qv : Value} {k : Nat} {s l : ByteArray} (h : Inv2 w ig T pv k qv Q wr) (hs : T[k]? = some s) (hl : Q.getLast? = some l) (hp : Lib.hasPrefix (D s) (D l) = true) : Inv2 w ig T pv (k + 1) qv Q wr := by
  refine ⟨?_, h.owns, h.ownsP, h.apart, h.isMap, h.res, h.var, h.below, h.size, by have := h.le; omega⟩
  rw [prune_take hs h.pruned, Pl.step_drop (l := D l) (by rw [List.getLast?_map, hl]; rfl) hp]

/-- What is kept: behind the append and the store into the field. -/
theorem inv2_keep {w wr w2 w3 : World} {ig T Q : List ByteArray} {pv qv : Value} {k : Nat} {s : ByteArray} (h : Inv2 w ig T pv k qv Q wr) (hs : T[k]? = some s) (hst : Pl.step (Q.map D) (D s) = Q.map D ++ [D s])
    {g cap H : Nat} (hH : wr.heap.size < H) (a1 : w2.ownsRow (w.heap.size + 3) 9 1 (.slice (some ⟨g, 0, none⟩) (Q.length + 1) cap) (Q.length + 1) (Q.map Value.string ++ [.string s])) (a2 : wr.grownBy w2 qv.ownBlock) (a3 : qv.ownBlock = some g ∨ g = H)
    (hw3 : w3 = w2.setCell ⟨w.heap.size + 2, 1, none⟩ (.slice (some ⟨g, 0, none⟩) (Q.length + 1) cap)) :
    Inv2 w ig T pv (k + 1) (.slice (some ⟨g, 0, none⟩) (Q.length + 1) cap) (Q ++ [s]) w3 := by
  have hr := h.owns.lt
  have hrp := h.ownsP.lt
  have far : ∀ j, j < w.heap.size + 3 → some j ≠ qv.ownBlock := fun j hj x => by have := (hr j x.symm).1; omega
  have hsz := h.size
  have hsz2 := a2.size
  have gs : w2.grownBy w3 (some (w.heap.size + 2)) := by
    subst hw3
    exact ⟨rfl, rfl, rfl, by simp [World.setCell], fun j _ hj => Below.heap_setCell w2 _ _ j (fun e => hj (by rw [e]))⟩
  have hap : pv.ownBlock = none ∨ pv.ownBlock ≠ qv.ownBlock := by
    rcases h.apart with hx | hx
    · cases hpo : pv.ownBlock with
      | none => exact .inl rfl
      | some j => right; rw [hx]; simp
    · exact .inr (Ne.symm hx)
  have hgb : w.heap.size + 3 ≤ g := (a1.lt g rfl).1
  refine ⟨?_, ?_, ?_, ?_, ?_, ?_, ?_, ?_, by have := gs.size; omega, by have := h.le; simp; omega⟩
  · rw [prune_take hs h.pruned, hst, List.map_append]; rfl
  · have := a1.kept gs (by right; simp [Value.ownBlock]; omega)
    simpa using this
  · refine (h.ownsP.kept a2 hap).kept gs ?_
    right
    intro x
    have := (hrp _ x).1
    omega
  · right
    intro x
    rcases a3 with a3 | a3
    · rcases hap with hx | hx
      · rw [hx] at x; cases x
      · exact hx (by rw [a3, ← x]; rfl)
    · have := (hrp g x.symm).2
      omega
  · exact (h.isMap.grown a2 (far _ (by omega))).grown gs (by simp)
  · exact (gs.block _ (by omega) (by simp)).trans ((a2.block _ (by omega) (far _ (by omega))).trans h.res)
  · have hv : w2.heap[w.heap.size + 2]? = some (.cells #[.map (some (w.heap.size + 1)), qv] 44) := (a2.block _ (by omega) (far _ (by omega))).trans h.var
    subst hw3
    unfold World.setCell
    simp [Array.getElem?_modify, hv]
  · exact (h.below.grown a2 (by omega) (fun j hj => by have := (hr j hj).1; omega)).grown gs (by omega) (fun j hj => by cases hj; omega)

end Go.Proofs.Qxb6617078a
