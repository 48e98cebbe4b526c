/-
  THE ROW's PROOF: FnPeerPlacesFirstMetSaid.
-/
import Derived.Test.Qxb6616555aLaw5
import Derived.ProofKit
import Derived.ShutString
import Derived.ChangeOld
import Derived.SliceStrings
namespace Go.Proofs.Qxb6616555a.Places
open Go.ChangeShapes Go.WideShapes Go.ChangeAt Go.RowKit

theorem own : ownKnob Try.prog.godebug = none := by kernel_rfl
theorem laidOut : laidOutB Try.prog = true := by kernel_rfl

/-- WHAT THE WALK IS TOLD OF A SLICE OF STRINGS THAT CAME IN. -/
def IsRow (w : World) (a : Option Addr) (len : Nat) (ids : List ByteArray) : Prop :=
  ids.length = len ∧ len ≤ 9223372036854775807 ∧ (∀ (i : Nat) t, ids[i]? = some t → ∃ b off, a = some ⟨b, off, none⟩ ∧ w.cell? ⟨b, off + i, none⟩ = some (.string t)) ∧ ∀ (i : Nat) t, ids[i]? = some t → t.size ≤ 9223372036854775807

theorem isRow_row {w : World} {a : Option Addr} {len cap : Nat} {ids : List ByteArray} (h : IsRow w a len ids) : Row w (.slice a len cap) ids := by
  obtain ⟨rfl, _, h1, _⟩ := h
  match hids : ids with
  | [] => exact .inl ⟨a, cap, rfl, rfl⟩
  | s :: r =>
    obtain ⟨b, off, rfl, _⟩ := h1 0 s (by simp)
    refine .inr ⟨b, off, cap, rfl, fun i t ht => ?_⟩
    obtain ⟨b', off', e, h2⟩ := h1 i t ht
    cases e
    exact h2

theorem isRow_of {H : Type} {enc : TypeId × Value → H} {w : World} {base : Nat} {sp : Nat → Bool} {held : Bool} {fuel : Nat} {a : Option Addr} {len cap : Nat} {x : DataW H × List MemPlace}
    (h : DataW.trod enc Try.prog w base sp held fuel 31 [.slice a len cap] = some x) : ∃ ids, IsRow w a len ids := by
  rcases open_strings Try.underlying31 Try.underlying9 (by kernel_rfl) h with ⟨hcs, _⟩ | ⟨ad, l, c, ss, hcs, _, hl, hm, hz, _, hcell, hws⟩
  · simp at hcs
    obtain ⟨rfl, rfl, rfl⟩ := hcs
    exact ⟨[], rfl, by omega, by intro i t h; simp at h, by intro i t h; simp at h⟩
  · simp at hcs
    obtain ⟨rfl, rfl, rfl⟩ := hcs
    have hlen : len ≤ ss.length := by rw [hz]; split <;> omega
    unfold maxLen at hm hws
    refine ⟨ss.take len, by simp; omega, by omega, fun i t ht => ?_, fun i t ht => ?_⟩
    · have hi : i < len := by
        rcases Nat.lt_or_ge i len with h | h
        · exact h
        · rw [List.getElem?_eq_none (by simp; omega)] at ht; cases ht
      rw [List.getElem?_take_of_lt hi] at ht
      have hc := hcell i (by omega)
      obtain ⟨b, off, spot⟩ := ad
      have hspot : spot = none := by simpa [Addr.add] using World.cell?_spot (hcell 0 (by omega))
      subst hspot
      refine ⟨b, off, rfl, ?_⟩
      rw [add_plain] at hc
      rw [hc, List.getD_eq_getElem?_getD, ht]
      rfl
    · have := hws t (List.mem_of_mem_take (List.mem_of_getElem? ht))
      omega

theorem walk (a : Option Addr) (len cap : Nat) (ids : List ByteArray) (w : World) (h : IsRow w a len ids) :
    Calls Try.prog 5 #[.slice a len cap] w fun e w' => e = .returned (.bool true) ∧ Below w.heap.size w w' := by
  have hr := isRow_row (cap := cap) h
  obtain ⟨rfl, hl, h1, h2⟩ := h
  exact law5_main a cap ids w hl (bytes13 hr hl h2) h1

set_option maxRecDepth 100000 in
theorem lifted (os : Os) (started : os.Started) (H : Type) (enc : TypeId × Value → H) :
    ReturnsInHanded {} Try.checked os 5 .any (Rows.fnPeerPlacesFirstMetSpec.pre6 enc Try.prog Try.f5 Rows.fnPeerPlacesFirstMetRow.domain false) (Rows.fnPeerPlacesFirstMetSpec.post enc Try.prog Try.f5 false true false false) := by
  refine returnsInHanded_of_change (C := Try.checked) own started (by kernel_rfl) Try.func5
    (ChangeSpec.witness6 (enc := enc) (C := Try.checked) false ⟨#[], #[.slice none 0 0], []⟩ 8 (by kernel_rfl) (by kernel_rfl) (by kernel_rfl) (by kernel_rfl)) ?_
  intro W base args ds gs before hval0 hW hcnd _
  have hval : ∀ (j : Nat) t v, Try.f5.params[j]? = some t → args[j]? = some v → Value.okWide Try.prog W .any base t v := hval0
  have hW' := hW
  obtain ⟨p, q, hA0, hV, rfl, hfz, hnd⟩ := hW
  have hA : DataW.TrodAll enc Try.prog W 0 (fun _ => true) true Try.f5.params.toList args.toList ds p := hA0
  rw [Try.params5] at hA hval
  obtain ⟨v0, d0, rfl, rfl, h0⟩ := trodAll_one hA
  obtain ⟨rfl, rfl⟩ := trodVars_none hV
  obtain ⟨a0, len0, cap0, rfl⟩ := okWide_slice Try.underlying31 (hval 0 31 v0 rfl rfl)
  have k0 := h0
  have lt0 : ∀ x ∈ p, x.block < W.heap.size := by obtain ⟨m, hm⟩ := k0; exact DataW.trod_lt m _ _ _ hm
  obtain ⟨ids, w0⟩ : ∃ ids, IsRow W a0 len0 ids := by
    obtain ⟨fuel, hf⟩ := h0
    exact isRow_of (by simpa [Value.cells] using hf)
  clear hA0 hval0
  refine (walk a0 len0 cap0 ids W w0).mono fun e W' ⟨he, bel⟩ => ?_
  subst he
  exact ⟨_, rfl, _, _, _, [], p, [], hW', trodAll_mk1 (shut_bool Try.underlying4 _), trodAll_mk1 (Below.trod laidOut (by kernel_rfl) (of_decide_eq_true (by kernel_rfl)) k0 bel lt0), rfl, bel.frame _, fun h => by cases h⟩

/-- THE STATEMENT. -/
theorem proved : Rows.FnPeerPlacesFirstMetSaid :=
  OpenClaim.holds_of_wide 5 Try.f5 rfl rfl rfl rfl rfl rfl rfl ⟨rfl, rfl, rfl, rfl, rfl⟩ rfl rfl rfl rfl rfl (by kernel_rfl) Try.func5 (by kernel_rfl)
    (of_decide_eq_true (by kernel_rfl)) (by unfold Func.isWrapper; first | (rw [if_pos (by decide +kernel)]; kernel_rfl) | (rw [if_neg (by decide +kernel)]; exact ⟨rfl, rfl⟩))
    (fun os started H enc _ => lifted os started H enc)
#print axioms proved
end Go.Proofs.Qxb6616555a.Places
