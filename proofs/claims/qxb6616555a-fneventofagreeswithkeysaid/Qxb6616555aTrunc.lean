/-
  WHAT 'zzTruncOf' ASKS, IN THE WALK's OWN FORMS: of a float64 within +-(2^53 - 1) and its whole part. No program in sight.
-/
import Derived.Test.Qxb6616555aFloat
namespace Go.Proofs.Qxb6616555a.Fl
open Ieee

/-- n is x with its fraction dropped: x is not negative. -/
def UpB (n : Int) (x : Nat) (r : Nat) : Prop :=
  (FloatKind.f64.format.order x 0 == some .gt || FloatKind.f64.format.order x 0 == some .eq) = true ∧
  (FloatKind.f64.format.order (floatOfInt .f64 n) 0 == some .gt || FloatKind.f64.format.order (floatOfInt .f64 n) 0 == some .eq) = true ∧
  (FloatKind.f64.format.order (floatOfInt .f64 n) x == some .lt || FloatKind.f64.format.order (floatOfInt .f64 n) x == some .eq) = true ∧
  floatBits .add .f64 (floatOfInt .f64 n) 4607182418800017408 = some r ∧ (FloatKind.f64.format.order x r == some .lt) = true

/-- n is x with its fraction dropped: x is negative. -/
def DownB (n : Int) (x : Nat) (r : Nat) : Prop :=
  (FloatKind.f64.format.order x 0 == some .gt || FloatKind.f64.format.order x 0 == some .eq) = false ∧
  (FloatKind.f64.format.order (floatOfInt .f64 n) 0 == some .lt || FloatKind.f64.format.order (floatOfInt .f64 n) 0 == some .eq) = true ∧
  floatBits .sub .f64 (floatOfInt .f64 n) 4607182418800017408 = some r ∧ (FloatKind.f64.format.order r x == some .lt) = true ∧
  (FloatKind.f64.format.order x (floatOfInt .f64 n) == some .lt || FloatKind.f64.format.order x (floatOfInt .f64 n) == some .eq) = true

theorem lt_iff {V U : Int} : (some (compare V U) == some Ordering.lt) = decide (V < U) := by
  rcases Int.lt_trichotomy V U with h | h | h
  · rw [Int.compare_eq_lt.2 h, decide_eq_true h]; rfl
  · subst h; rw [Int.compare_eq_eq.2 rfl]; simp
  · rw [Int.compare_eq_gt.2 h, decide_eq_false (by omega)]; rfl
theorem le_iff {V U : Int} : (some (compare V U) == some Ordering.lt || some (compare V U) == some Ordering.eq) = decide (V ≤ U) := by
  rcases Int.lt_trichotomy V U with h | h | h
  · rw [Int.compare_eq_lt.2 h, decide_eq_true (by omega)]; rfl
  · subst h; rw [Int.compare_eq_eq.2 rfl]; simp
  · rw [Int.compare_eq_gt.2 h, decide_eq_false (by omega)]; rfl
theorem ge_iff {V U : Int} : (some (compare V U) == some Ordering.gt || some (compare V U) == some Ordering.eq) = decide (U ≤ V) := by
  rcases Int.lt_trichotomy V U with h | h | h
  · rw [Int.compare_eq_lt.2 h, decide_eq_false (by omega)]; rfl
  · subst h; rw [Int.compare_eq_eq.2 rfl]; simp
  · rw [Int.compare_eq_gt.2 h, decide_eq_true (by omega)]; rfl

theorem toIntVal_of {x : Nat} {V : Int} (hx : Is x V) (h1 : -9007199254740991 ≤ V.tdiv (SC : Int)) (h2 : V.tdiv (SC : Int) ≤ 9007199254740991) : floatToIntVal .f64 x .i64 = some (V.tdiv (SC : Int)) := by
  unfold floatToIntVal
  have : (FloatKind.f64.decode x).toInt .zero = some (V.tdiv (SC : Int)) := toInt_is hx
  rw [this]
  have hm : IntKind.i64.min = -9223372036854775808 := by decide
  have hM : IntKind.i64.max = 9223372036854775807 := by decide
  simp only
  rw [if_pos ⟨by rw [hm]; omega, by rw [hM]; omega⟩]

/-- EVERY float64 WITHIN +-(2^53 - 1): its whole part n. -/
theorem trunc_all (x : Nat)
    (h1 : (FloatKind.f64.format.order x 14069245235905429503 == some .gt || FloatKind.f64.format.order x 14069245235905429503 == some .eq) = true)
    (h2 : (FloatKind.f64.format.order x 4845873199050653695 == some .lt || FloatKind.f64.format.order x 4845873199050653695 == some .eq) = true) :
    ∃ n : Int, -9007199254740991 ≤ n ∧ n ≤ 9007199254740991 ∧ floatToIntVal .f64 x .i64 = some n ∧ floatToIntVal .f64 (Op.negFloat .f64 x) .i64 = some (-n) ∧ ∃ r, UpB n x r ∨ DownB n x r := by
  obtain ⟨V, hx, hlo, hhi⟩ := is_of_between is_lo is_hi h1 h2
  have hsc : (0 : Int) < (SC : Int) := by have := SC_pos; omega
  have hdm := Int.mul_tdiv_add_tmod V (SC : Int)
  have hn1 : -9007199254740991 ≤ V.tdiv (SC : Int) := by
    have h := Int.tdiv_le_tdiv hsc hlo
    rw [Int.mul_tdiv_cancel _ (by omega)] at h
    exact h
  have hn2 : V.tdiv (SC : Int) ≤ 9007199254740991 := by
    have h := Int.tdiv_le_tdiv hsc hhi
    rw [Int.mul_tdiv_cancel _ (by omega)] at h
    exact h
  refine ⟨V.tdiv (SC : Int), hn1, hn2, toIntVal_of hx hn1 hn2, ?_, ?_⟩
  · have h := toIntVal_of (is_neg hx) (by rw [Int.neg_tdiv]; omega) (by rw [Int.neg_tdiv]; omega)
    rw [Int.neg_tdiv] at h
    exact h
  generalize hN : V.tdiv (SC : Int) = N at *
  have hF : Is (floatOfInt .f64 N) (N * (SC : Int)) := is_nearest N (by omega) (by omega)
  by_cases hV : 0 ≤ V
  · obtain ⟨r, hr, hri⟩ := add_one hF (by omega) (by omega)
    have hm1 : 0 ≤ V.tmod (SC : Int) := Int.tmod_nonneg _ hV
    have hm2 : V.tmod (SC : Int) < (SC : Int) := Int.tmod_lt_of_pos _ hsc
    rw [Int.mul_comm] at hdm
    have hN0 : 0 ≤ N := by rw [← hN]; exact Int.tdiv_nonneg hV (by omega)
    refine ⟨r, .inl ⟨?_, ?_, ?_, hr, ?_⟩⟩
    · have := order_is hx is_zero
      show (double.order x 0 == _ || double.order x 0 == _) = true
      rw [this, ge_iff]; simpa using hV
    · have := order_is hF is_zero
      show (double.order (floatOfInt .f64 N) 0 == _ || double.order (floatOfInt .f64 N) 0 == _) = true
      rw [this, ge_iff]; simpa using Int.mul_nonneg hN0 (by omega)
    · have := order_is hF hx
      show (double.order (floatOfInt .f64 N) x == _ || double.order (floatOfInt .f64 N) x == _) = true
      rw [this, le_iff]; simp; omega
    · have := order_is hx hri
      show (double.order x r == _) = true
      rw [this, lt_iff, Int.add_mul]; simp; omega
  · obtain ⟨r, hr, hri⟩ := sub_one hF (by omega) (by omega)
    have hVn : V = -(-V) := by omega
    have hm1 : V.tmod (SC : Int) ≤ 0 := by
      have h := Int.tmod_nonneg (SC : Int) (a := -V) (by omega)
      rw [Int.neg_tmod] at h
      omega
    have hm2 : -(SC : Int) < V.tmod (SC : Int) := by
      have h := Int.tmod_lt_of_pos (-V) hsc
      rw [Int.neg_tmod] at h
      omega
    rw [Int.mul_comm] at hdm
    have hN0 : N ≤ 0 := by
      rw [← hN]
      have h := Int.tdiv_nonneg (a := -V) (b := (SC : Int)) (by omega) (by omega)
      rw [Int.neg_tdiv] at h
      omega
    refine ⟨r, .inr ⟨?_, ?_, hr, ?_, ?_⟩⟩
    · have := order_is hx is_zero
      show (double.order x 0 == _ || double.order x 0 == _) = false
      rw [this, ge_iff]; simpa using hV
    · have := order_is hF is_zero
      show (double.order (floatOfInt .f64 N) 0 == _ || double.order (floatOfInt .f64 N) 0 == _) = true
      rw [this, le_iff]
      have := Int.mul_nonneg (a := -N) (b := (SC : Int)) (by omega) (by omega)
      rw [Int.neg_mul] at this
      simp; omega
    · have := order_is hri hx
      show (double.order r x == _) = true
      rw [this, lt_iff, Int.sub_mul]; simp; omega
    · have := order_is hx hF
      show (double.order x (floatOfInt .f64 N) == _ || double.order x (floatOfInt .f64 N) == _) = true
      rw [this, le_iff]; simp; omega

end Go.Proofs.Qxb6616555a.Fl
