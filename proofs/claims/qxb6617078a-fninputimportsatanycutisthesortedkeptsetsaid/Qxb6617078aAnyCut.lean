/-
  THE ROW's PROOF: FnInputImportsAtAnyCutIsTheSortedKeptSetSaid.
-/
import Derived.Test.Qxb6617078aLaw3
import Derived.Test.Qxb6617078aOpen
namespace Go.Proofs.Qxb6617078a.AnyCut
open Go.ChangeShapes Go.WideShapes Go.ChangeAt Go.RowKit

/-- A slice that came in has room for its length. -/
theorem fits_of {H : Type} {enc : TypeId × Value → H} {w : World} {base : Nat} {sp : Nat → Bool} {held : Bool} {fuel : Nat} {a : Option Addr} {len cap : Nat} {x : DataW H × List MemPlace}
    (h : DataW.trod enc Try.prog w base sp held fuel 22 [.slice a len cap] = some x) : len ≤ cap := by
  rcases open_strings Try.underlying22 Try.underlying9 (by kernel_rfl) h with ⟨hcs, _⟩ | ⟨ad, l, c, ss, hcs, _, hl, _⟩
  · simp at hcs
    obtain ⟨rfl, rfl, rfl⟩ := hcs
    omega
  · simp at hcs
    obtain ⟨rfl, rfl, rfl⟩ := hcs
    exact hl

theorem walk (ar ag ai : Option Addr) (nr ng ni cr cg ci : Nat) (reqs ig imps : List ByteArray) (w : World) (x : Int) (h0 : IsRow w ar nr reqs) (h1 : IsRow w ag ng ig) (h2 : IsRow w ai ni imps) (hc : ni ≤ ci) :
    Calls Try.prog 3 #[.slice ar nr cr, .slice ag ng cg, .slice ai ni ci, .int .i64 x] w fun e w' => e = .returned (.bool true) ∧ Below w.heap.size w w' := by
  have r0 := isRow_row (cap := cr) h0
  have r1 := isRow_row (cap := cg) h1
  have r2 := isRow_row (cap := ci) h2
  obtain ⟨rfl, l0, _, s0⟩ := h0
  obtain ⟨rfl, l1, _, s1⟩ := h1
  obtain ⟨rfl, l2, _, s2⟩ := h2
  exact law3_main ar ag ai cr cg ci reqs ig imps x w l0 l1 l2 hc r0 r1 r2 (bytes7 r0 l0 s0 r1 l1 s1 r2 l2 s2)

set_option maxRecDepth 100000 in
theorem lifted (os : Os) (started : os.Started) (H : Type) (enc : TypeId × Value → H) :
    ReturnsInHanded {} Try.checked os 3 .any (Rows.fnInputImportsAtAnyCutIsTheSortedKeptSetSpec.pre6 enc Try.prog Try.f3 Rows.fnInputImportsAtAnyCutIsTheSortedKeptSetRow.domain false) (Rows.fnInputImportsAtAnyCutIsTheSortedKeptSetSpec.post enc Try.prog Try.f3 false true false false) := by
  refine returnsInHanded_of_change (C := Try.checked) own started (by kernel_rfl) Try.func3
    (ChangeSpec.witness6 (enc := enc) (C := Try.checked) false ⟨#[], #[.slice none 0 0, .slice none 0 0, .slice none 0 0, .int .i64 0], []⟩ 8 (by kernel_rfl) (by kernel_rfl) (by kernel_rfl) (by kernel_rfl)) ?_
  intro W base args ds gs before hval0 hW hcnd _
  have hval : ∀ (j : Nat) t v, Try.f3.params[j]? = some t → args[j]? = some v → Value.okWide Try.prog W .any base t v := hval0
  have hW' := hW
  obtain ⟨p, q, hA0, hV, rfl, hfz, hnd⟩ := hW
  have hA : DataW.TrodAll enc Try.prog W 0 (fun _ => true) true Try.f3.params.toList args.toList ds p := hA0
  rw [Try.params3] at hA hval
  obtain ⟨v0, v1, v2, v3, d0, d1, d2, d3, p0, p1, p2, p3, rfl, rfl, rfl, h0, h1, h2, h3⟩ := trodAll_four hA
  obtain ⟨rfl, rfl⟩ := trodVars_none hV
  obtain ⟨a0, len0, cap0, rfl⟩ := okWide_slice Try.underlying22 (hval 0 22 v0 rfl rfl)
  obtain ⟨a1, len1, cap1, rfl⟩ := okWide_slice Try.underlying22 (hval 1 22 v1 rfl rfl)
  obtain ⟨a2, len2, cap2, rfl⟩ := okWide_slice Try.underlying22 (hval 2 22 v2 rfl rfl)
  have k0 := h0
  have k1 := h1
  have k2 := h2
  have lt0 : ∀ x ∈ p0, x.block < W.heap.size := by obtain ⟨m, hm⟩ := k0; exact DataW.trod_lt m _ _ _ hm
  have lt1 : ∀ x ∈ p1, x.block < W.heap.size := by obtain ⟨m, hm⟩ := k1; exact DataW.trod_lt m _ _ _ hm
  have lt2 : ∀ x ∈ p2, x.block < W.heap.size := by obtain ⟨m, hm⟩ := k2; exact DataW.trod_lt m _ _ _ hm
  obtain ⟨reqs, w0⟩ : ∃ ids, IsRow W a0 len0 ids := by
    obtain ⟨fuel, hf⟩ := h0
    exact isRow_of (by simpa [Value.cells] using hf)
  obtain ⟨ig, w1⟩ : ∃ ids, IsRow W a1 len1 ids := by
    obtain ⟨fuel, hf⟩ := h1
    exact isRow_of (by simpa [Value.cells] using hf)
  obtain ⟨imps, w2⟩ : ∃ ids, IsRow W a2 len2 ids := by
    obtain ⟨fuel, hf⟩ := h2
    exact isRow_of (by simpa [Value.cells] using hf)
  have wc : len2 ≤ cap2 := by
    obtain ⟨fuel, hf⟩ := h2
    exact fits_of (by simpa [Value.cells] using hf)
  obtain ⟨x, rfl, rfl, rfl, wx⟩ := open_int Try.underlying3 (hval 3 3 v3 rfl rfl) h3
  clear hA0 hval0
  refine (walk a0 a1 a2 len0 len1 len2 cap0 cap1 cap2 reqs ig imps W x w0 w1 w2 wc).mono fun e W' ⟨he, bel⟩ => ?_
  subst he
  exact ⟨_, rfl, _, _, _, [], _, [], hW', trodAll_mk1 (shut_bool Try.underlying4 _), trodAll_mk4 (Below.trod laidOut (by kernel_rfl) (of_decide_eq_true (by kernel_rfl)) k0 bel lt0) (Below.trod laidOut (by kernel_rfl) (of_decide_eq_true (by kernel_rfl)) k1 bel lt1) (Below.trod laidOut (by kernel_rfl) (of_decide_eq_true (by kernel_rfl)) k2 bel lt2) (shut_int Try.underlying3 wx), rfl, bel.frame _, fun h => by cases h⟩

/-- THE STATEMENT. -/
theorem proved : Rows.FnInputImportsAtAnyCutIsTheSortedKeptSetSaid :=
  OpenClaim.holds_of_wide 3 Try.f3 rfl rfl rfl rfl rfl rfl rfl ⟨rfl, rfl, rfl, rfl, rfl⟩ rfl rfl rfl rfl rfl (by kernel_rfl) Try.func3 (by kernel_rfl)
    (of_decide_eq_true (by kernel_rfl)) (by unfold Func.isWrapper; first | (rw [if_pos (by decide +kernel)]; kernel_rfl) | (rw [if_neg (by decide +kernel)]; exact ⟨rfl, rfl⟩))
    (fun os started H enc _ => lifted os started H enc)
#print axioms proved
end Go.Proofs.Qxb6617078a.AnyCut
