/-
  WORDS FOR THE WALKS of this seat: a slice of strings as a list; what a bounds' test tells; worlds that differ by draws and new blocks alone.
-/
import Derived.Test.Qxb6617078aRows
import Derived.Test.Qxb6617078aIgn
import Derived.Test.Qxb6617078aStrMap
import Derived.Test.Qxb6617078aShelf
import Derived.Deep.AppendLies
import Derived.WalkKit
import Derived.WalkSpells
import Derived.WalkLawsBesides
import Derived.StillTactics
import Derived.Laws.Pointers
import Derived.RegionTactic
import Derived.Deep.QuietTactic
import Derived.BigQuiet
import Derived.RowKit3
import Derived.WalkSmall
namespace Go.Proofs.Qxb6617078a
open Go.RowKit

theorem hidP {p : Prop} (h : p) : Hid p := h

/-- A string's bytes. -/
def D (s : ByteArray) : List UInt8 := s.data.toList
theorem D_inj {a b : ByteArray} (h : D a = D b) : a = b := Go.WideShapes.bytes_inj h
theorem D_len (s : ByteArray) : (D s).length = s.size := (Lib.size_eq s).symm
def S (l : List UInt8) : ByteArray := ⟨l.toArray⟩
theorem D_S (l : List UInt8) : D (S l) = l := by simp [D, S]
theorem S_D (s : ByteArray) : S (D s) = s := D_inj (D_S _)
theorem toList_D (s : ByteArray) : s.toList = D s := Lib.toList_data s

/-- THE SLICE VALUE v LEADS TO THE STRINGS ds. -/
def Row (w : World) (v : Value) (ds : List ByteArray) : Prop :=
  ∃ a cap, v = .slice a ds.length cap ∧ ∀ (i : Nat) t, ds[i]? = some t → ∃ b off, a = some ⟨b, off, none⟩ ∧ w.cell? ⟨b, off + i, none⟩ = some (.string t)

theorem row_of_owns {w : World} {base : Nat} {v : Value} {ds : List ByteArray} (h : w.ownsRow base 9 1 v ds.length (ds.map Value.string)) : Row w v ds := by
  rcases h.2 with ⟨rfl, h0⟩ | ⟨g, cap, cur, rfl, hb, hg, _⟩
  · have : ds = [] := List.length_eq_zero_iff.1 h0
    subst this
    exact ⟨none, 0, rfl, by intro i t h; simp at h⟩
  · refine ⟨_, cap, rfl, fun i s hs => ⟨g, 0, rfl, ?_⟩⟩
    have h1 := h.cells (g := g) rfl i (.string s) (by simp [hs])
    have hadd : (⟨g, 0, none⟩ : Addr).add i = ⟨g, i, none⟩ := by unfold Addr.add; split <;> simp_all
    rw [hadd] at h1
    simpa using h1

/-- What lay below is as it was: so is the row. -/
theorem Row.below {w w' : World} {v : Value} {ds : List ByteArray} (h : Row w v ds) (hb : Below w.heap.size w w') : Row w' v ds := by
  obtain ⟨a, cap, rfl, hc⟩ := h
  refine ⟨a, cap, rfl, fun i t ht => ?_⟩
  obtain ⟨b, off, rfl, h1⟩ := hc i t ht
  exact ⟨b, off, rfl, (hb.cell (p := ⟨b, off + i, none⟩) (World.block_lt_of_cell? w _ h1)).trans h1⟩

theorem below_drewN_refl (w : World) (n : Nat) (B : Nat) : Below B w (w.drewN n) := below_drewN (Below.refl _ _) n

theorem list_ne {a b : ByteArray} (h : ¬ a = b) : (a.toList == b.toList) = false := by
  rw [← beq_toListBytes]
  cases hc : (a == b)
  · rfl
  · exact absurd ((MapKept.bytes_beq a b).1 hc) h

/-- What a bounds' test tells where it says yes. -/
def Small (ids : List ByteArray) : Prop := ids.length ≤ 1048576 ∧ ∀ (j : Nat) s, ids[j]? = some s → s.size ≤ 1048576
/-- A bool comes back; where it is true, p holds. -/
def Says (p : Prop) (e : Ending) : Prop := ∃ r, e = .returned (.bool r) ∧ (r = true → p)

theorem getElem?_lt {α : Type} {l : List α} {i : Nat} {x : α} (h : l[i]? = some x) : i < l.length := by
  rcases Nat.lt_or_ge i l.length with h1 | h1
  · exact h1
  · rw [List.getElem?_eq_none h1] at h; cases h

end Go.Proofs.Qxb6617078a
