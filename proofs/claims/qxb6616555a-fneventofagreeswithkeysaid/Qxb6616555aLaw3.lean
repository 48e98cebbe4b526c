/-
  THE WALKS of Event.key, ZZkeyParts and of the law FnEventOfAgreesWithKey (function 3), one a way through its tests.
-/
import Derived.Test.Qxb6616555aEvent
namespace Go.Proofs.Qxb6616555a
open Go.RowKit

set_option maxHeartbeats 400000 in
theorem key_any (p k v : ByteArray) (n : Int) (w : World) :
    Calls Try.prog 23 #[.agg #[.string p, .string k, .string v, .int .i64 n]] w fun e w' => e = .returned (.agg #[.string p, .string k, .string v]) ∧ ∃ c1 t1 c2 t2, w' = (w.alloc (.cells c1 t1)).alloc (.cells c2 t2) := by
  go_enter Try.func23, Try.ntmps23
  go_wp2
  exact bodyPost_ret (v := .agg #[.string p, .string k, .string v]) (by simp [results, Try.results23, go_sem]) rfl ⟨rfl, _, _, _, _, rfl⟩

set_option maxHeartbeats 400000 in
theorem keyParts_any (p k v : ByteArray) (n : Int) (w : World) :
    Calls Try.prog 10 #[.agg #[.string p, .string k, .string v, .int .i64 n]] w fun e w' => e = .returned (.tuple #[.string p, .string k, .string v]) ∧ Below w.heap.size w w' := by
  go_enter Try.func10, Try.ntmps10
  go_wp2_with fail
  refine (key_any _ _ _ _ _).mono ?_
  rintro e w1 ⟨rfl, c1, t1, c2, t2, rfl⟩
  go_wp2_with fail
  go_quiet (fail)
  go_wp2
  go_ret3
  refine ⟨rfl, below_drewN ?_ _⟩
  exact ((((Below.refl _ _).alloc (Nat.le_refl _) _).alloc (by simp) _).alloc (by simp; omega) _).alloc (by simp; omega) _

set_option maxHeartbeats 400000 in
theorem law3_big (p k v : ByteArray) (x : Nat) (w : World) (hp : p.size ≤ 9223372036854775807) (hk : k.size ≤ 9223372036854775807) (hv : v.size ≤ 9223372036854775807) (h : 1048576 < p.size + k.size + v.size) :
    Calls Try.prog 3 #[.string p, .string k, .string v, .float .f64 x] w fun e w' => e = .returned (.bool true) ∧ Below w.heap.size w w' := by
  go_enter Try.func3, Try.ntmps3
  go_wp2_with (go_at_call 8; refine (bytes8_no _ _ _ _ _ hp hk hv h).mono ?_; rintro e w' ⟨rfl, rfl⟩)
  go_ret
  exact ⟨rfl, Below.refl _ _⟩

set_option maxHeartbeats 400000 in
theorem law3_lo (p k v : ByteArray) (x : Nat) (w : World) (h : p.size + k.size + v.size ≤ 1048576)
    (h1 : (FloatKind.f64.format.order x 14069245235905429503 == some .gt || FloatKind.f64.format.order x 14069245235905429503 == some .eq) = false) :
    Calls Try.prog 3 #[.string p, .string k, .string v, .float .f64 x] w fun e w' => e = .returned (.bool true) ∧ Below w.heap.size w w' := by
  go_enter Try.func3, Try.ntmps3
  go_wp2_with (go_at_call 8; refine (bytes8_yes _ _ _ _ _ h).mono ?_; rintro e w' ⟨rfl, rfl⟩)
  go_ret
  exact ⟨rfl, Below.refl _ _⟩

set_option maxHeartbeats 400000 in
theorem law3_hi (p k v : ByteArray) (x : Nat) (w : World) (h : p.size + k.size + v.size ≤ 1048576)
    (h1 : (FloatKind.f64.format.order x 14069245235905429503 == some .gt || FloatKind.f64.format.order x 14069245235905429503 == some .eq) = true)
    (h2 : (FloatKind.f64.format.order x 4845873199050653695 == some .lt || FloatKind.f64.format.order x 4845873199050653695 == some .eq) = false) :
    Calls Try.prog 3 #[.string p, .string k, .string v, .float .f64 x] w fun e w' => e = .returned (.bool true) ∧ Below w.heap.size w w' := by
  go_enter Try.func3, Try.ntmps3
  go_wp2_with (go_at_call 8; refine (bytes8_yes _ _ _ _ _ h).mono ?_; rintro e w' ⟨rfl, rfl⟩)
  go_ret
  exact ⟨rfl, Below.refl _ _⟩

set_option maxHeartbeats 400000 in
theorem law3_in (p k v : ByteArray) (x : Nat) (w : World) (h : p.size + k.size + v.size ≤ 1048576)
    (h1 : (FloatKind.f64.format.order x 14069245235905429503 == some .gt || FloatKind.f64.format.order x 14069245235905429503 == some .eq) = true)
    (h2 : (FloatKind.f64.format.order x 4845873199050653695 == some .lt || FloatKind.f64.format.order x 4845873199050653695 == some .eq) = true) :
    Calls Try.prog 3 #[.string p, .string k, .string v, .float .f64 x] w fun e w' => e = .returned (.bool true) ∧ Below w.heap.size w w' := by
  obtain ⟨n, n1, n2, hn, hm, r, hr⟩ := Fl.trunc_all x h1 h2
  have ht : ∀ w, Calls Try.prog 11 #[.int .i64 n, .float .f64 x] w fun e w' => e = .returned (.bool true) ∧ w' = w := fun w => by
    rcases hr with hr | hr
    · exact trunc_up n x r w n1 n2 hr
    · exact trunc_down n x r w n1 n2 hr
  have HT := hide ht
  have HN := hide hn
  clear ht hr hn hm
  go_enter Try.func3, Try.ntmps3
  go_wp2_with fail
  refine (bytes8_yes _ _ _ _ _ h).mono ?_
  rintro e w' ⟨rfl, rfl⟩
  go_wp2_with fail
  refine (zzEventOf_any _ _ _ _ n _ HN.out).mono ?_
  rintro e w1 ⟨rfl, b1⟩
  go_wp2_with fail
  refine (keyParts_any _ _ _ _ _).mono ?_
  rintro e w2 ⟨rfl, b2⟩
  have kk : ∀ i, w2.cell? ⟨w1.heap.size, i, none⟩ = (w1.alloc (.cells #[.string p, .string k, .string v, .int .i64 n] 26)).cell? ⟨w1.heap.size, i, none⟩ := fun i => b2.cell (p := ⟨w1.heap.size, i, none⟩) (by simp)
  have k0 : w2.cell? ⟨w1.heap.size, 0, none⟩ = some (.string p) := by rw [kk]; simp
  have k1 : w2.cell? ⟨w1.heap.size, 1, none⟩ = some (.string k) := by rw [kk]; simp
  have k2 : w2.cell? ⟨w1.heap.size, 2, none⟩ = some (.string v) := by rw [kk]; simp
  have k3 : w2.cell? ⟨w1.heap.size, 3, none⟩ = some (.int .i64 n) := by rw [kk]; simp
  clear kk
  go_wp2_with fail
  refine (HT.out _).mono ?_
  rintro e w3 ⟨rfl, rfl⟩
  go_wp2_with fail
  go_ret
  exact ⟨rfl, (b1.alloc (by have := b1.size; omega) _).trans (b2.mono (by have := b1.size; simp; omega))⟩
end Go.Proofs.Qxb6616555a
