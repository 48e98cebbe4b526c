/-
  THE ROW's PROOF: FnEventOfAgreesWithKeySaid.
-/
import Derived.Test.Qxb6616555aLaw3
import Derived.ProofKit
import Derived.ShutString
import Derived.ChangeOld
import Derived.Laws.Cover2
namespace Go.Proofs.Qxb6616555a.Agrees
open Go.ChangeShapes Go.WideShapes Go.ChangeAt Go.RowKit
open Go.ChangeMaps (open_string shut_string)

theorem own : ownKnob Try.prog.godebug = none := by kernel_rfl

theorem walk (p k v : ByteArray) (x : Nat) (w : World) (hp : p.size ≤ maxLen) (hk : k.size ≤ maxLen) (hv : v.size ≤ maxLen) :
    Calls Try.prog 3 #[.string p, .string k, .string v, .float .f64 x] w fun e w' => e = .returned (.bool true) ∧ Below w.heap.size w w' := by
  unfold maxLen at hp hk hv
  by_cases h : p.size + k.size + v.size ≤ 1048576
  · cases h1 : (FloatKind.f64.format.order x 14069245235905429503 == some .gt || FloatKind.f64.format.order x 14069245235905429503 == some .eq)
    · exact law3_lo p k v x w h h1
    · cases h2 : (FloatKind.f64.format.order x 4845873199050653695 == some .lt || FloatKind.f64.format.order x 4845873199050653695 == some .eq)
      · exact law3_hi p k v x w h h1 h2
      · exact law3_in p k v x w h h1 h2
  · exact law3_big p k v x w (by omega) (by omega) (by omega) (by omega)

set_option maxRecDepth 100000 in
theorem lifted (os : Os) (started : os.Started) (H : Type) (enc : TypeId × Value → H) :
    ReturnsInHanded {} Try.checked os 3 .any (Rows.fnEventOfAgreesWithKeySpec.pre6 enc Try.prog Try.f3 Rows.fnEventOfAgreesWithKeyRow.domain false) (Rows.fnEventOfAgreesWithKeySpec.post enc Try.prog Try.f3 false true false false) := by
  refine returnsInHanded_of_change (C := Try.checked) own started (by kernel_rfl) Try.func3
    (ChangeSpec.witness6 (enc := enc) (C := Try.checked) false ⟨#[], #[.string ⟨#[]⟩, .string ⟨#[]⟩, .string ⟨#[]⟩, .float .f64 0], []⟩ 8 (by kernel_rfl) (by kernel_rfl) (by kernel_rfl) (by kernel_rfl)) ?_
  intro W base args ds gs before hval0 hW hcnd _
  have hval : ∀ (j : Nat) t v, Try.f3.params[j]? = some t → args[j]? = some v → Value.okWide Try.prog W .any base t v := hval0
  have hW' := hW
  obtain ⟨p, q, hA0, hV, rfl, hfz, hnd⟩ := hW
  have hA : DataW.TrodAll enc Try.prog W 0 (fun _ => true) true Try.f3.params.toList args.toList ds p := hA0
  rw [Try.params3] at hA hval
  obtain ⟨v0, v1, v2, v3, d0, d1, d2, d3, p0, p1, p2, p3, rfl, rfl, rfl, h0, h1, h2, h3⟩ := trodAll_four hA
  obtain ⟨rfl, rfl⟩ := trodVars_none hV
  obtain ⟨s0, rfl, rfl, rfl, w0⟩ := open_string Try.underlying9 (hval 0 9 v0 rfl rfl) h0
  obtain ⟨s1, rfl, rfl, rfl, w1⟩ := open_string Try.underlying9 (hval 1 9 v1 rfl rfl) h1
  obtain ⟨s2, rfl, rfl, rfl, w2⟩ := open_string Try.underlying9 (hval 2 9 v2 rfl rfl) h2
  obtain ⟨x, rfl, rfl, rfl, w3⟩ := open_float Try.underlying22 (hval 3 22 v3 rfl rfl) h3
  clear hA0 hval0
  refine (walk s0 s1 s2 x W w0 w1 w2).mono fun e W' ⟨he, bel⟩ => ?_
  subst he
  exact ⟨_, rfl, _, _, _, [], [], [], hW', trodAll_mk1 (shut_bool Try.underlying4 _), trodAll_mk4 (shut_string Try.underlying9 w0) (shut_string Try.underlying9 w1) (shut_string Try.underlying9 w2) (shut_float Try.underlying22 w3), rfl, bel.frame _, fun h => by cases h⟩

/-- THE STATEMENT. -/
theorem proved : Rows.FnEventOfAgreesWithKeySaid :=
  OpenClaim.holds_of_wide 3 Try.f3 rfl rfl rfl rfl rfl rfl rfl ⟨rfl, rfl, rfl, rfl, rfl⟩ rfl rfl rfl rfl rfl (by kernel_rfl) Try.func3 (by kernel_rfl)
    (of_decide_eq_true (by kernel_rfl)) (by unfold Func.isWrapper; first | (rw [if_pos (by decide +kernel)]; kernel_rfl) | (rw [if_neg (by decide +kernel)]; exact ⟨rfl, rfl⟩))
    (fun os started H enc _ => lifted os started H enc)
#print axioms proved
end Go.Proofs.Qxb6616555a.Agrees
