/-
  HOW A SLICE OF STRINGS THAT CAME IN IS OPENED, over this seat's program.
-/
import Derived.Test.Qxb6617078aKit
import Derived.ProofKit
import Derived.ShutString
import Derived.ChangeOld
import Derived.SliceStrings
namespace Go.Proofs.Qxb6617078a
open Go.ChangeShapes Go.WideShapes Go.ChangeAt Go.RowKit

theorem own : ownKnob Try.prog.godebug = none := by kernel_rfl
theorem laidOut : laidOutB Try.prog = true := by kernel_rfl

/-- WHAT THE WALK IS TOLD OF A SLICE OF STRINGS THAT CAME IN. -/
def IsRow (w : World) (a : Option Addr) (len : Nat) (ids : List ByteArray) : Prop :=
  ids.length = len ∧ len ≤ 9223372036854775807 ∧ (∀ (i : Nat) t, ids[i]? = some t → ∃ b off, a = some ⟨b, off, none⟩ ∧ w.cell? ⟨b, off + i, none⟩ = some (.string t)) ∧ ∀ (i : Nat) t, ids[i]? = some t → t.size ≤ 9223372036854775807

theorem isRow_row {w : World} {a : Option Addr} {len cap : Nat} {ids : List ByteArray} (h : IsRow w a len ids) : Row w (.slice a len cap) ids := by
  obtain ⟨rfl, _, h1, _⟩ := h
  exact ⟨a, cap, rfl, h1⟩

theorem isRow_of {H : Type} {enc : TypeId × Value → H} {w : World} {base : Nat} {sp : Nat → Bool} {held : Bool} {fuel : Nat} {a : Option Addr} {len cap : Nat} {x : DataW H × List MemPlace}
    (h : DataW.trod enc Try.prog w base sp held fuel 22 [.slice a len cap] = some x) : ∃ ids, IsRow w a len ids := by
  rcases open_strings Try.underlying22 Try.underlying9 (by kernel_rfl) h with ⟨hcs, _⟩ | ⟨ad, l, c, ss, hcs, _, hl, hm, hz, _, hcell, hws⟩
  · simp at hcs
    obtain ⟨rfl, rfl, rfl⟩ := hcs
    exact ⟨[], rfl, by omega, by intro i t h; simp at h, by intro i t h; simp at h⟩
  · simp at hcs
    obtain ⟨rfl, rfl, rfl⟩ := hcs
    have hlen : len ≤ ss.length := by rw [hz]; split <;> omega
    unfold maxLen at hm hws
    refine ⟨ss.take len, by simp; omega, by omega, fun i t ht => ?_, fun i t ht => ?_⟩
    · have hi : i < len := by
        rcases Nat.lt_or_ge i len with h | h
        · exact h
        · rw [List.getElem?_eq_none (by simp; omega)] at ht; cases ht
      rw [List.getElem?_take_of_lt hi] at ht
      have hc := hcell i (by omega)
      obtain ⟨b, off, spot⟩ := ad
      have hspot : spot = none := by simpa [Addr.add] using World.cell?_spot (hcell 0 (by omega))
      subst hspot
      refine ⟨b, off, rfl, ?_⟩
      rw [add_plain] at hc
      rw [hc, List.getD_eq_getElem?_getD, ht]
      rfl
    · have := hws t (List.mem_of_mem_take (List.mem_of_getElem? ht))
      omega

end Go.Proofs.Qxb6617078a
