/-
  THE ROW's PROOF: FnInputImportsIsAFixedPointThatAgreesWithIgnoresSaid.
-/
import Derived.Test.Qxb6617078aLaw4
import Derived.Test.Qxb6617078aOpen
namespace Go.Proofs.Qxb6617078a.Fixed
open Go.ChangeShapes Go.WideShapes Go.ChangeAt Go.RowKit

theorem walk (ar ag ai : Option Addr) (nr ng ni cr cg ci : Nat) (reqs ig imps : List ByteArray) (w : World) (h0 : IsRow w ar nr reqs) (h1 : IsRow w ag ng ig) (h2 : IsRow w ai ni imps) :
    Calls Try.prog 4 #[.slice ar nr cr, .slice ag ng cg, .slice ai ni ci] w fun e w' => e = .returned (.bool true) ∧ Below w.heap.size w w' := by
  have r0 := isRow_row (cap := cr) h0
  have r1 := isRow_row (cap := cg) h1
  have r2 := isRow_row (cap := ci) h2
  obtain ⟨rfl, l0, _, s0⟩ := h0
  obtain ⟨rfl, l1, _, s1⟩ := h1
  obtain ⟨rfl, l2, _, s2⟩ := h2
  exact law4_main ar ag ai cr cg ci reqs ig imps w l0 l1 l2 r0 r1 r2 (bytes15 r0 l0 s0 r1 l1 s1 r2 l2 s2)

set_option maxRecDepth 100000 in
theorem lifted (os : Os) (started : os.Started) (H : Type) (enc : TypeId × Value → H) :
    ReturnsInHanded {} Try.checked os 4 .any (Rows.fnInputImportsIsAFixedPointThatAgreesWithIgnoresSpec.pre6 enc Try.prog Try.f4 Rows.fnInputImportsIsAFixedPointThatAgreesWithIgnoresRow.domain false) (Rows.fnInputImportsIsAFixedPointThatAgreesWithIgnoresSpec.post enc Try.prog Try.f4 false true false false) := by
  refine returnsInHanded_of_change (C := Try.checked) own started (by kernel_rfl) Try.func4
    (ChangeSpec.witness6 (enc := enc) (C := Try.checked) false ⟨#[], #[.slice none 0 0, .slice none 0 0, .slice none 0 0], []⟩ 8 (by kernel_rfl) (by kernel_rfl) (by kernel_rfl) (by kernel_rfl)) ?_
  intro W base args ds gs before hval0 hW hcnd _
  have hval : ∀ (j : Nat) t v, Try.f4.params[j]? = some t → args[j]? = some v → Value.okWide Try.prog W .any base t v := hval0
  have hW' := hW
  obtain ⟨p, q, hA0, hV, rfl, hfz, hnd⟩ := hW
  have hA : DataW.TrodAll enc Try.prog W 0 (fun _ => true) true Try.f4.params.toList args.toList ds p := hA0
  rw [Try.params4] at hA hval
  obtain ⟨v0, v1, v2, d0, d1, d2, p0, p1, p2, rfl, rfl, rfl, h0, h1, h2⟩ := trodAll_three hA
  obtain ⟨rfl, rfl⟩ := trodVars_none hV
  obtain ⟨a0, len0, cap0, rfl⟩ := okWide_slice Try.underlying22 (hval 0 22 v0 rfl rfl)
  obtain ⟨a1, len1, cap1, rfl⟩ := okWide_slice Try.underlying22 (hval 1 22 v1 rfl rfl)
  obtain ⟨a2, len2, cap2, rfl⟩ := okWide_slice Try.underlying22 (hval 2 22 v2 rfl rfl)
  have k0 := h0
  have k1 := h1
  have k2 := h2
  have lt0 : ∀ x ∈ p0, x.block < W.heap.size := by obtain ⟨m, hm⟩ := k0; exact DataW.trod_lt m _ _ _ hm
  have lt1 : ∀ x ∈ p1, x.block < W.heap.size := by obtain ⟨m, hm⟩ := k1; exact DataW.trod_lt m _ _ _ hm
  have lt2 : ∀ x ∈ p2, x.block < W.heap.size := by obtain ⟨m, hm⟩ := k2; exact DataW.trod_lt m _ _ _ hm
  obtain ⟨reqs, w0⟩ : ∃ ids, IsRow W a0 len0 ids := by
    obtain ⟨fuel, hf⟩ := h0
    exact isRow_of (by simpa [Value.cells] using hf)
  obtain ⟨ig, w1⟩ : ∃ ids, IsRow W a1 len1 ids := by
    obtain ⟨fuel, hf⟩ := h1
    exact isRow_of (by simpa [Value.cells] using hf)
  obtain ⟨imps, w2⟩ : ∃ ids, IsRow W a2 len2 ids := by
    obtain ⟨fuel, hf⟩ := h2
    exact isRow_of (by simpa [Value.cells] using hf)
  clear hA0 hval0
  refine (walk a0 a1 a2 len0 len1 len2 cap0 cap1 cap2 reqs ig imps W w0 w1 w2).mono fun e W' ⟨he, bel⟩ => ?_
  subst he
  exact ⟨_, rfl, _, _, _, [], _, [], hW', trodAll_mk1 (shut_bool Try.underlying4 _), trodAll_mk3 (Below.trod laidOut (by kernel_rfl) (of_decide_eq_true (by kernel_rfl)) k0 bel lt0) (Below.trod laidOut (by kernel_rfl) (of_decide_eq_true (by kernel_rfl)) k1 bel lt1) (Below.trod laidOut (by kernel_rfl) (of_decide_eq_true (by kernel_rfl)) k2 bel lt2), rfl, bel.frame _, fun h => by cases h⟩

/-- THE STATEMENT. -/
theorem proved : Rows.FnInputImportsIsAFixedPointThatAgreesWithIgnoresSaid :=
  OpenClaim.holds_of_wide 4 Try.f4 rfl rfl rfl rfl rfl rfl rfl ⟨rfl, rfl, rfl, rfl, rfl⟩ rfl rfl rfl rfl rfl (by kernel_rfl) Try.func4 (by kernel_rfl)
    (of_decide_eq_true (by kernel_rfl)) (by unfold Func.isWrapper; first | (rw [if_pos (by decide +kernel)]; kernel_rfl) | (rw [if_neg (by decide +kernel)]; exact ⟨rfl, rfl⟩))
    (fun os started H enc _ => lifted os started H enc)
#print axioms proved
end Go.Proofs.Qxb6617078a.Fixed
