/-
  THE WALK of the law FnIgnoringNamesJustWhatSomeEntryNames (5).
-/
import Derived.Test.Qxb6617078aIgnoring
import Derived.Test.Qxb6617078aBytesI
namespace Go.Proofs.Qxb6617078a
open Go.RowKit

set_option maxHeartbeats 2000000 in
theorem law5_main (a : Option Addr) (cap : Nat) (ig : List ByteArray) (p : ByteArray) (w : World) (hl : ig.length ≤ 9223372036854775807)
    (hrow : Row w (.slice a ig.length cap) ig)
    (hby : Calls Try.prog 18 #[.slice a ig.length cap, .string p] w fun e w' => Says (SmallX ig p) e ∧ w' = w) :
    Calls Try.prog 5 #[.slice a ig.length cap, .string p] w fun e w' => e = .returned (.bool true) ∧ Below w.heap.size w w' := by
  have HB := hidP hby
  have HR := hidP hrow
  clear hby hrow
  generalize hn : ig.length = n at *
  have HN := hidP hn
  clear hn
  go_enter Try.func5, Try.ntmps5
  go_wp2_with fail
  refine HB.out.mono ?_
  rintro e w0 ⟨⟨r, rfl, hr⟩, rfl⟩
  cases r with
  | false =>
    go_wp2_with fail
    go_ret
    exact ⟨rfl, Below.refl _ _⟩
  | true =>
  obtain ⟨hsm, hp1⟩ := hr rfl
  have HSM := hidP hsm
  clear hr hsm
  by_cases hl4 : 65536 < n
  · go_wp2_with fail
    go_ret
    exact ⟨rfl, Below.refl _ _⟩
  have hl5 : n ≤ 65536 := by omega
  clear hl4 hl
  go_wp2_with fail
  refine (add_any HR.out HSM.out 0 (by omega) (by omega)).mono ?_
  rintro e w1 ⟨⟨t, rfl, ht0, ht1⟩, rfl⟩
  by_cases ht2 : 1048576 < t
  · go_wp2_with fail
    go_ret
    exact ⟨rfl, Below.refl _ _⟩
  by_cases ht3 : 1048576 < t + p.size
  · go_wp2_with fail
    go_ret
    exact ⟨rfl, Below.refl _ _⟩
  go_wp2_with fail
  refine (ignoring_any (v := .slice a n cap) (ig := ig) (by simp) (HR.out.below ((Below.refl _ _).alloc (Nat.le_refl _) _)) (by rw [HN.out]; omega) (fun j s hj => by have := HSM.out.2 j s hj; omega)).mono ?_
  rintro e w2 ⟨v, rfl, hig, hb⟩
  have hig' := hig
  obtain ⟨mb, qv, Q, rfl, _, ⟨aq, cq, rfl, _⟩, _⟩ := hig'
  have HIG := hidP hig
  have HBl := hidP hb
  clear hig hb
  go_wp2_with fail
  refine (ignores_any (HIG.out.below ((Below.refl _ _).alloc (Nat.le_refl _) _)) p).mono ?_
  rintro e w3 ⟨rfl, hb3⟩
  have hball : Below w1.heap.size w1 w3 := by
    have h1 := HBl.out.size
    simp at h1
    have b1 : Below w1.heap.size w1 w2 := ((Below.refl _ _).alloc (Nat.le_refl _) _).trans (HBl.out.mono (by simp))
    exact (b1.alloc (by omega) _).trans (hb3.mono (by simp; omega))
  have HBA := hidP hball
  clear hball hb3
  go_wp2_with fail
  refine (named_any (HR.out.below HBA.out) p (by omega) (by rw [HN.out]; omega) (fun j s hj => by have := HSM.out.2 j s hj; omega)).mono ?_
  rintro e w4 ⟨rfl, q, rfl⟩
  go_wp2_with fail
  go_ret
  exact ⟨rfl, below_drewN HBA.out _⟩
end Go.Proofs.Qxb6617078a
