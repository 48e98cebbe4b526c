/-
  THE WALKS of the law FnEventOfTimeTruncatesTowardZero (function 4), one a way through its tests.
-/
import Derived.Test.Qxb6616555aEvent
namespace Go.Proofs.Qxb6616555a
open Go.RowKit

theorem bcell {W w1 : World} (hb : Below W.heap.size W w1) : (∀ b o, b < W.heap.size → w1.cell? ⟨b, o, none⟩ = W.cell? ⟨b, o, none⟩) ∧ (∀ b o, b < W.heap.size → w1.frozen? ⟨b, o, none⟩ = W.frozen? ⟨b, o, none⟩) :=
  ⟨fun b o h => hb.cell (p := ⟨b, o, none⟩) h, fun b o h => hb.frozen (p := ⟨b, o, none⟩) h⟩

set_option maxHeartbeats 400000 in
theorem law4_big (p k v : ByteArray) (x : Nat) (w : World) (hp : p.size ≤ 9223372036854775807) (hk : k.size ≤ 9223372036854775807) (hv : v.size ≤ 9223372036854775807) (h : 1048576 < p.size + k.size + v.size) :
    Calls Try.prog 4 #[.string p, .string k, .string v, .float .f64 x] w fun e w' => e = .returned (.bool true) ∧ Below w.heap.size w w' := by
  go_enter Try.func4, Try.ntmps4
  go_wp2_with (go_at_call 12; refine (bytes12_no _ _ _ _ _ hp hk hv h).mono ?_; rintro e w' ⟨rfl, rfl⟩)
  go_ret
  exact ⟨rfl, Below.refl _ _⟩

set_option maxHeartbeats 400000 in
theorem law4_lo (p k v : ByteArray) (x : Nat) (w : World) (h : p.size + k.size + v.size ≤ 1048576)
    (h1 : (FloatKind.f64.format.order x 14069245235905429503 == some .gt || FloatKind.f64.format.order x 14069245235905429503 == some .eq) = false) :
    Calls Try.prog 4 #[.string p, .string k, .string v, .float .f64 x] w fun e w' => e = .returned (.bool true) ∧ Below w.heap.size w w' := by
  go_enter Try.func4, Try.ntmps4
  go_wp2_with (go_at_call 12; refine (bytes12_yes _ _ _ _ _ h).mono ?_; rintro e w' ⟨rfl, rfl⟩)
  go_ret
  exact ⟨rfl, Below.refl _ _⟩

set_option maxHeartbeats 400000 in
theorem law4_hi (p k v : ByteArray) (x : Nat) (w : World) (h : p.size + k.size + v.size ≤ 1048576)
    (h1 : (FloatKind.f64.format.order x 14069245235905429503 == some .gt || FloatKind.f64.format.order x 14069245235905429503 == some .eq) = true)
    (h2 : (FloatKind.f64.format.order x 4845873199050653695 == some .lt || FloatKind.f64.format.order x 4845873199050653695 == some .eq) = false) :
    Calls Try.prog 4 #[.string p, .string k, .string v, .float .f64 x] w fun e w' => e = .returned (.bool true) ∧ Below w.heap.size w w' := by
  go_enter Try.func4, Try.ntmps4
  go_wp2_with (go_at_call 12; refine (bytes12_yes _ _ _ _ _ h).mono ?_; rintro e w' ⟨rfl, rfl⟩)
  go_ret
  exact ⟨rfl, Below.refl _ _⟩

set_option maxHeartbeats 400000 in
theorem law4_in (p k v : ByteArray) (x : Nat) (w : World) (h : p.size + k.size + v.size ≤ 1048576)
    (h1 : (FloatKind.f64.format.order x 14069245235905429503 == some .gt || FloatKind.f64.format.order x 14069245235905429503 == some .eq) = true)
    (h2 : (FloatKind.f64.format.order x 4845873199050653695 == some .lt || FloatKind.f64.format.order x 4845873199050653695 == some .eq) = true) :
    Calls Try.prog 4 #[.string p, .string k, .string v, .float .f64 x] w fun e w' => e = .returned (.bool true) ∧ Below w.heap.size w w' := by
  obtain ⟨n, n1, n2, hn, hm, r, hr⟩ := Fl.trunc_all x h1 h2
  have ht : ∀ w, Calls Try.prog 11 #[.int .i64 n, .float .f64 x] w fun e w' => e = .returned (.bool true) ∧ w' = w := fun w => by
    rcases hr with hr | hr
    · exact trunc_up n x r w n1 n2 hr
    · exact trunc_down n x r w n1 n2 hr
  have hneg : ∀ w, (Op.unary .neg (.float .f64 x)).run Try.prog w = .ok (.float .f64 (Op.negFloat .f64 x)) w := fun w => rfl
  generalize Op.negFloat .f64 x = y at *
  have HT := hide ht
  have HN := hide hn
  have HM := hide hm
  clear ht hr hn hm
  go_enter Try.func4, Try.ntmps4
  go_wp2_with fail
  refine (bytes12_yes _ _ _ _ _ h).mono ?_
  rintro e w' ⟨rfl, rfl⟩
  go_wp2_with fail
  refine (zzEventOf_any _ _ _ _ n _ HN.out).mono ?_
  rintro e w1 ⟨rfl, b1⟩
  go_wp2_with fail
  refine (zzEventOf_any _ _ _ _ (-n) _ HM.out).mono ?_
  rintro e w2 ⟨rfl, b2⟩
  have hz : w1.heap.size < w2.heap.size := by have := b2.size; simp at this; omega
  have kk : ∀ o i, (w2.alloc o).cell? ⟨w1.heap.size, i, none⟩ = (w1.alloc (.cells #[.string p, .string k, .string v, .int .i64 n] 26)).cell? ⟨w1.heap.size, i, none⟩ := fun o i =>
    (World.cell?_of_block (Below.heap_alloc w2 o w1.heap.size hz)).trans (b2.cell (p := ⟨w1.heap.size, i, none⟩) (by simp))
  have k0 : ∀ o, (w2.alloc o).cell? ⟨w1.heap.size, 0, none⟩ = some (.string p) := fun o => by rw [kk]; simp
  have k1 : ∀ o, (w2.alloc o).cell? ⟨w1.heap.size, 1, none⟩ = some (.string k) := fun o => by rw [kk]; simp
  have k2 : ∀ o, (w2.alloc o).cell? ⟨w1.heap.size, 2, none⟩ = some (.string v) := fun o => by rw [kk]; simp
  have k3 : ∀ o, (w2.alloc o).cell? ⟨w1.heap.size, 3, none⟩ = some (.int .i64 n) := fun o => by rw [kk]; simp
  clear kk
  go_wp2_with fail
  refine (HT.out _).mono ?_
  rintro e w3 ⟨rfl, rfl⟩
  go_wp2_with fail
  go_ret
  refine ⟨rfl, ?_⟩
  exact ((b1.alloc (by have := b1.size; omega) _).trans (b2.mono (by have := b1.size; simp; omega))).alloc (by have := b1.size; omega) _
end Go.Proofs.Qxb6616555a
