/-
  THE PLAIN LAWS ON float64 that the two laws on events want: no Go in sight. Each finite double is a whole multiple of 2^-1074: 'Is x V': the word x stands for V * 2^-1074.
-/
import Derived.Laws.FloatArith
namespace Go.Proofs.Qxb6616555a.Fl
open Ieee

/-- The word x stands for the number V * 2^-1074. -/
def Is (x : Nat) (V : Int) : Prop := ∃ s m i, double.read x = .number s m i ∧ -1074 ≤ i ∧ V = signed s m (i + 1074).toNat

/-- 2^1074, behind two names. -/
def EX : Nat := 1074
theorem EX_eq : EX = 1074 := rfl
def SC : Nat := 2 ^ EX
theorem SC_pos : 0 < SC := by unfold SC; exact Nat.two_pow_pos _

theorem signed_mul (s : Bool) (m a c : Nat) : signed s m (a + c) = signed s m a * ((2 ^ c : Nat) : Int) := by
  unfold signed
  simp only [Nat.shiftLeft_eq, Nat.pow_add]
  cases s
  · simp only [Bool.false_eq_true, if_false]
    push_cast
    rw [Int.mul_assoc]
  · simp only [if_true]
    push_cast
    rw [Int.neg_mul, Int.mul_assoc]

theorem compare_mul (a b : Int) (c : Nat) (hc : 0 < c) : compare (a * (c : Int)) (b * (c : Int)) = compare a b := by
  have hc' : (0 : Int) < c := by omega
  rcases Int.lt_trichotomy a b with h | h | h
  · have h2 : a * (c : Int) < b * (c : Int) := Int.mul_lt_mul_of_pos_right h hc'
    rw [Int.compare_eq_lt.2 h, Int.compare_eq_lt.2 h2]
  · subst h
    rw [Int.compare_eq_eq.2 rfl, Int.compare_eq_eq.2 rfl]
  · have h2 : b * (c : Int) < a * (c : Int) := Int.mul_lt_mul_of_pos_right h hc'
    rw [Int.compare_eq_gt.2 h, Int.compare_eq_gt.2 h2]

/-- Two finite words are ordered as their numbers are. -/
theorem order_is {x y : Nat} {V U : Int} (hx : Is x V) (hy : Is y U) : double.order x y = some (compare V U) := by
  obtain ⟨s, m, i, hx, hi, rfl⟩ := hx
  obtain ⟨t, n, j, hy, hj, rfl⟩ := hy
  unfold Format.order
  rw [hx, hy]
  simp only [Datum.order]
  have h1 : (i + 1074).toNat = (i - min i j).toNat + (min i j + 1074).toNat := by omega
  have h2 : (j + 1074).toNat = (j - min i j).toNat + (min i j + 1074).toNat := by omega
  rw [h1, h2, signed_mul, signed_mul, compare_mul _ _ _ (Nat.two_pow_pos _)]

theorem read_place {x : Nat} {s : Bool} {m : Nat} {i : Int} (h : double.read x = .number s m i) : -1074 ≤ i := by
  have hl : double.leastPlace = -1074 := by decide
  unfold Format.read at h
  dsimp only at h
  split at h
  · cases h; omega
  · split at h
    · cases h; omega
    · split at h <;> cases h

/-- A word that lies between two finite words is finite. -/
theorem is_of_between {x lo hi : Nat} {A B : Int} (hlo : Is lo A) (hhi : Is hi B)
    (h1 : (double.order x lo == some .gt || double.order x lo == some .eq) = true) (h2 : (double.order x hi == some .lt || double.order x hi == some .eq) = true) :
    ∃ V, Is x V ∧ A ≤ V ∧ V ≤ B := by
  cases hx : double.read x with
  | nan s f =>
    exfalso
    obtain ⟨t, n, j, hy, _, _⟩ := hlo
    simp [Format.order, hx, hy, Datum.order] at h1
  | infinity s =>
    exfalso
    obtain ⟨t, n, j, hy, _, _⟩ := hlo
    obtain ⟨t', n', j', hy', _, _⟩ := hhi
    simp [Format.order, hx, hy, Datum.order] at h1
    simp [Format.order, hx, hy', Datum.order] at h2
    cases s <;> simp at h1 h2
  | number s m i =>
    have hv : Is x (signed s m (i + 1074).toNat) := ⟨s, m, i, hx, read_place hx, rfl⟩
    refine ⟨_, hv, ?_, ?_⟩
    · rw [order_is hv hlo] at h1
      simp at h1
      rcases h1 with h | h
      · have := Int.compare_eq_gt.1 h; omega
      · omega
    · rw [order_is hv hhi] at h2
      simp at h2
      rcases h2 with h | h
      · have := Int.compare_eq_lt.1 h; omega
      · omega

theorem cut_zero (n d : Nat) (s : Bool) : Toward.zero.cut s n d = n / 2 ^ d := by
  unfold Toward.cut
  dsimp only
  simp only [Nat.shiftLeft_eq, Nat.one_mul, Bool.toNat_false, Nat.add_zero]
  by_cases h : d ≤ n.log2 + 2
  · rw [Nat.min_eq_left h]
  · rw [Nat.min_eq_right (by omega)]
    have h0 : n < 2 ^ (n.log2 + 1) := Nat.lt_log2_self
    rw [Nat.div_eq_of_lt (Nat.lt_of_lt_of_le h0 (Nat.pow_le_pow_right (by decide) (by omega)))]
    rw [Nat.div_eq_of_lt (Nat.lt_of_lt_of_le h0 (Nat.pow_le_pow_right (by decide) (by omega)))]

/-- A finite word made whole, toward zero. -/
theorem toInt_is {x : Nat} {V : Int} (hx : Is x V) : (double.read x).toInt .zero = some (V.tdiv (SC : Int)) := by
  obtain ⟨s, m, i, hx, hi, rfl⟩ := hx
  rw [hx]
  simp only [Datum.toInt, Datum.integral, cut_zero]
  have key : (m <<< i.toNat) / 2 ^ (-i).toNat = (m <<< (i + 1074).toNat) / SC := by
    unfold SC
    have he := EX_eq
    simp only [Nat.shiftLeft_eq]
    by_cases h : 0 ≤ i
    · have e1 : (-i).toNat = 0 := by omega
      have e2 : (i + 1074).toNat = i.toNat + EX := by omega
      rw [e1, e2, Nat.pow_zero, Nat.div_one, Nat.pow_add, ← Nat.mul_assoc, Nat.mul_div_cancel _ (Nat.two_pow_pos _)]
    · have e1 : i.toNat = 0 := by omega
      have e2 : EX = (i + 1074).toNat + (-i).toNat := by omega
      rw [e1, Nat.pow_zero, Nat.mul_one]
      have e3 : (2 : Nat) ^ EX = 2 ^ (i + 1074).toNat * 2 ^ (-i).toNat := by rw [← Nat.pow_add]; exact congrArg (2 ^ ·) e2
      rw [e3, ← Nat.div_div_eq_div_mul, Nat.mul_div_cancel _ (Nat.two_pow_pos _)]
  rw [key]
  unfold signed
  cases s
  · simp only [Bool.false_eq_true, if_false, Nat.shiftLeft_zero]
    rfl
  · simp only [if_true, Nat.shiftLeft_zero]
    rw [Int.neg_tdiv]
    rfl

theorem cut_even_whole (n d : Nat) (s : Bool) (h : 2 ^ d ∣ n) (hn : n ≠ 0) : Toward.even.cut s n d = n / 2 ^ d := by
  have hle : d ≤ n.log2 + 2 := by
    have h0 : n < 2 ^ (n.log2 + 1) := Nat.lt_log2_self
    have h1 : 2 ^ d ≤ n := Nat.le_of_dvd (by omega) h
    have h2 : 2 ^ d < 2 ^ (n.log2 + 1) := Nat.lt_of_le_of_lt h1 h0
    have := (Nat.pow_lt_pow_iff_right (by decide : 1 < 2)).1 h2
    omega
  unfold Toward.cut
  dsimp only
  rw [Nat.min_eq_left hle]
  simp only [Nat.shiftLeft_eq, Nat.one_mul]
  rw [Nat.mod_eq_zero_of_dvd h]
  have hp : 0 < 2 ^ d := Nat.two_pow_pos _
  have h1 : decide (2 ^ d < 2 * 0) = false := by simp
  have h2 : (2 ^ d == 2 * 0) = false := by simp
  rw [h1, h2]
  simp

theorem read_word_num (neg : Bool) (L kept : Nat) (hL : L ≤ 2045) (hk : kept < 9007199254740992) (hb : 0 < L → 4503599627370496 ≤ kept) :
    double.read (double.word neg (L * 4503599627370496 + kept)) = .number neg kept (-1074 + (L : Int)) := by
  have hbin : double.binade = 4503599627370496 := by decide
  have hinf : double.infRung = 9218868437227405312 := by decide
  have hsw : double.signWeight = 9223372036854775808 := by decide
  have hlp : double.leastPlace = -1074 := by decide
  have hr : double.word neg (L * 4503599627370496 + kept) / 9223372036854775808 % 2 = neg.toNat ∧ double.word neg (L * 4503599627370496 + kept) % 9223372036854775808 = L * 4503599627370496 + kept := by
    unfold Format.word
    rw [hsw]
    cases neg
    · simp only [Bool.false_eq_true, if_false, Bool.toNat_false]; omega
    · simp only [if_true, Bool.toNat_true]; omega
  unfold Format.read
  dsimp only
  rw [hsw, hbin, hinf, hlp, hr.1, hr.2]
  have hn : (neg.toNat == 1) = neg := by cases neg <;> rfl
  rw [hn]
  by_cases h1 : L * 4503599627370496 + kept < 4503599627370496
  · rw [if_pos h1]
    have h0 : L = 0 := by omega
    subst h0
    simp
  · rw [if_neg h1, if_pos (by omega)]
    have hk2 : 4503599627370496 ≤ kept := by
      by_cases h0 : 0 < L
      · exact hb h0
      · omega
    have e1 : 4503599627370496 + (L * 4503599627370496 + kept) % 4503599627370496 = kept := by omega
    have e2 : (L * 4503599627370496 + kept) / 4503599627370496 - 1 = L := by omega
    rw [e1, e2]

/-- A number with at most 53 binary digits is written exactly. -/
theorem nearest_exact (neg : Bool) (mag : Nat) (place : Int) (h0 : mag ≠ 0) (hp : -1074 ≤ place) (hd : 2 ^ (mag.log2 - 52) ∣ mag) (hh : place + mag.log2 ≤ 1023) :
    Is (double.nearest neg mag place) (signed neg mag (place + 1074).toNat) := by
  have hfb : (double.fractionBits : Int) = 52 := rfl
  have hlp : double.leastPlace = -1074 := by decide
  have hbin : double.binade = 4503599627370496 := by decide
  have hinf : double.infRung = 9218868437227405312 := by decide
  have hlo : 2 ^ mag.log2 ≤ mag := Nat.log2_self_le h0
  have hhi : mag < 2 ^ (mag.log2 + 1) := Nat.lt_log2_self
  unfold Format.nearest
  rw [if_neg h0]
  dsimp only
  rw [hfb, hlp, hbin, hinf]
  -- what is kept, and its place L above the least
  have main : ∃ L kept : Nat, (max (place + (mag.log2 : Int) - 52) (-1074) - -1074).toNat = L ∧
      Toward.even.cut neg (mag <<< (place - max (place + (mag.log2 : Int) - 52) (-1074)).toNat) (max (place + (mag.log2 : Int) - 52) (-1074) - place).toNat = kept ∧
      L ≤ 2045 ∧ kept < 9007199254740992 ∧ (0 < L → 4503599627370496 ≤ kept) ∧ signed neg kept L = signed neg mag (place + 1074).toNat := by
    refine ⟨_, _, rfl, rfl, by omega, ?_⟩
    have e52 : (2 : Nat) ^ 52 = 4503599627370496 := by decide
    have e53 : (2 : Nat) ^ 53 = 9007199254740992 := by decide
    by_cases hc : max (place + (mag.log2 : Int) - 52) (-1074) ≤ place
    · -- nothing is dropped
      have hb0 : (max (place + (mag.log2 : Int) - 52) (-1074) - place).toNat = 0 := by omega
      have hl52 : mag.log2 ≤ 52 := by omega
      generalize hA : (place - max (place + (mag.log2 : Int) - 52) (-1074)).toNat = A
      have hA52 : mag.log2 + A ≤ 52 := by omega
      rw [hb0, Nat.shiftLeft_eq]
      have hne : mag * 2 ^ A ≠ 0 := Nat.mul_ne_zero h0 (Nat.pos_iff_ne_zero.1 (Nat.two_pow_pos _))
      rw [cut_even_whole _ 0 neg (by simp) hne, Nat.pow_zero, Nat.div_one]
      refine ⟨?_, ?_, ?_⟩
      · have h1 : mag * 2 ^ A < 2 ^ (mag.log2 + 1) * 2 ^ A := Nat.mul_lt_mul_of_pos_right hhi (Nat.two_pow_pos _)
        rw [← Nat.pow_add] at h1
        have h2 : 2 ^ (mag.log2 + 1 + A) ≤ 2 ^ 53 := Nat.pow_le_pow_right (by decide) (by omega)
        omega
      · intro hL
        have hA' : mag.log2 + A = 52 := by omega
        have h1 : 2 ^ mag.log2 * 2 ^ A ≤ mag * 2 ^ A := Nat.mul_le_mul_right _ hlo
        rw [← Nat.pow_add, hA', e52] at h1
        exact h1
      · have e : (place + 1074).toNat = A + (max (place + (mag.log2 : Int) - 52) (-1074) - -1074).toNat := by omega
        rw [e, Nat.add_comm A, signed_mul, ← Nat.shiftLeft_eq]
        unfold signed
        simp only [Nat.shiftLeft_eq]
        cases neg
        · simp only [Bool.false_eq_true, if_false]
          push_cast
          rw [Int.mul_assoc, Int.mul_assoc, Int.mul_comm ((2 : Int) ^ A)]
        · simp only [if_true]
          push_cast
          rw [Int.neg_mul, Int.mul_assoc, Int.mul_assoc, Int.mul_comm ((2 : Int) ^ A)]
    · have hA0 : (place - max (place + (mag.log2 : Int) - 52) (-1074)).toNat = 0 := by omega
      have hB : (max (place + (mag.log2 : Int) - 52) (-1074) - place).toNat = mag.log2 - 52 := by omega
      have hl : 52 < mag.log2 := by omega
      rw [hA0, hB, Nat.shiftLeft_zero, cut_even_whole _ _ neg hd h0]
      obtain ⟨q, hq⟩ := hd
      have hqd : mag / 2 ^ (mag.log2 - 52) = q := by
        rw [Nat.div_eq_of_eq_mul_right (Nat.two_pow_pos _) hq]
      have e2 : 2 ^ (mag.log2 + 1) = 2 ^ (mag.log2 - 52) * 2 ^ 53 := by rw [← Nat.pow_add]; congr 1; omega
      have e3 : 2 ^ mag.log2 = 2 ^ (mag.log2 - 52) * 2 ^ 52 := by rw [← Nat.pow_add]; congr 1; omega
      rw [hqd]
      refine ⟨?_, ?_, ?_⟩
      · have h1 : 2 ^ (mag.log2 - 52) * q < 2 ^ (mag.log2 - 52) * 2 ^ 53 := by rw [← hq, ← e2]; exact hhi
        have := Nat.lt_of_mul_lt_mul_left h1
        omega
      · intro _
        have h1 : 2 ^ (mag.log2 - 52) * 2 ^ 52 ≤ 2 ^ (mag.log2 - 52) * q := by rw [← hq, ← e3]; exact hlo
        have := Nat.le_of_mul_le_mul_left h1 (Nat.two_pow_pos _)
        omega
      · have e : (max (place + (mag.log2 : Int) - 52) (-1074) - -1074).toNat = (mag.log2 - 52) + (place + 1074).toNat := by omega
        rw [e, signed_mul]
        conv => rhs; rw [← Nat.zero_add (place + 1074).toNat, signed_mul]
        congr 1
        unfold signed
        simp only [Nat.shiftLeft_eq, Nat.pow_zero, Nat.mul_one]
        rw [Nat.mul_comm q, ← hq]
  obtain ⟨L, kept, e1, e2, hL, hk, hb, hv⟩ := main
  rw [e1, e2, Nat.min_eq_left (by omega)]
  refine ⟨neg, kept, -1074 + (L : Int), read_word_num neg L kept hL hk hb, by omega, ?_⟩
  rw [← hv]
  congr 1
  omega

theorem log2_shift (q b : Nat) (hq : q ≠ 0) : (q * 2 ^ b).log2 = q.log2 + b := by
  have h1 := Nat.log2_self_le hq
  have h2 : q < 2 ^ (q.log2 + 1) := Nat.lt_log2_self
  have hne : q * 2 ^ b ≠ 0 := Nat.mul_ne_zero hq (Nat.pos_iff_ne_zero.1 (Nat.two_pow_pos _))
  rw [Nat.log2_eq_iff hne]
  constructor
  · rw [Nat.pow_add]; exact Nat.mul_le_mul_right _ h1
  · have h3 : q * 2 ^ b < 2 ^ (q.log2 + 1) * 2 ^ b := Nat.mul_lt_mul_of_pos_right h2 (Nat.two_pow_pos _)
    rw [← Nat.pow_add] at h3
    have e : q.log2 + 1 + b = q.log2 + b + 1 := by omega
    rw [e] at h3
    exact h3

/-- A whole number of magnitude at most 2^53, whatever place it is told at, is written exactly. -/
theorem write_whole (neg : Bool) (q b : Nat) (hq0 : q ≠ 0) (hq : q ≤ 9007199254740992) (hb : b ≤ 1074) :
    Is (double.nearest neg (q * 2 ^ b) (-(b : Int))) (signed neg q EX) := by
  have hlog := log2_shift q b hq0
  have hne : q * 2 ^ b ≠ 0 := Nat.mul_ne_zero hq0 (Nat.pos_iff_ne_zero.1 (Nat.two_pow_pos _))
  have e53 : (2 : Nat) ^ 53 = 9007199254740992 := by decide
  have hl53 : q.log2 ≤ 53 := by
    have h1 := Nat.log2_self_le hq0
    rw [← e53] at hq
    exact (Nat.pow_le_pow_iff_right (by decide : 1 < 2)).1 (Nat.le_trans h1 hq)
  have hd : 2 ^ ((q * 2 ^ b).log2 - 52) ∣ q * 2 ^ b := by
    rw [hlog]
    by_cases h : q.log2 ≤ 52
    · exact Nat.dvd_trans (Nat.pow_dvd_pow 2 (by omega : q.log2 + b - 52 ≤ b)) (Nat.dvd_mul_left _ _)
    · have h3 : q.log2 = 53 := by omega
      have h1 := Nat.log2_self_le hq0
      rw [h3, e53] at h1
      have h4 : q = 2 ^ 53 := by omega
      rw [h3, h4, ← Nat.pow_add]
      exact Nat.pow_dvd_pow 2 (by omega)
  have h := nearest_exact neg (q * 2 ^ b) (-(b : Int)) hne (by omega) hd (by rw [hlog]; omega)
  have e : signed neg (q * 2 ^ b) (-(b : Int) + 1074).toNat = signed neg q EX := by
    have hE := EX_eq
    have e1 : EX = b + (-(b : Int) + 1074).toNat := by omega
    conv => rhs; rw [e1]
    unfold signed
    simp only [Nat.shiftLeft_eq, Nat.pow_add, Nat.mul_assoc]
  rw [e] at h
  exact h

theorem signed_EX (neg : Bool) (q : Nat) (N : Int) (hs : neg = decide (N < 0)) (hq : q = N.natAbs) : signed neg q EX = N * (SC : Int) := by
  subst hs hq
  unfold signed SC
  simp only [Nat.shiftLeft_eq]
  by_cases h : N < 0
  · simp only [h, decide_true, if_true]
    push_cast
    have e : ((N.natAbs : Nat) : Int) = -N := by omega
    rw [e, Int.neg_mul, Int.neg_neg]
  · simp only [h, decide_false, Bool.false_eq_true, if_false]
    push_cast
    have e : ((N.natAbs : Nat) : Int) = N := by omega
    rw [e]

theorem is_zero_word (neg : Bool) : Is (double.word neg 0) 0 := by
  have h := read_word_num neg 0 0 (by omega) (by omega) (by omega)
  simp only [Nat.zero_mul, Nat.add_zero] at h
  refine ⟨neg, 0, _, h, by omega, ?_⟩
  unfold signed
  simp

/-- float64(n), |n| ≤ 2^53: exact. -/
theorem is_nearest (N : Int) (h1 : -9007199254740992 ≤ N) (h2 : N ≤ 9007199254740992) : Is (FloatKind.f64.nearest N) (N * (SC : Int)) := by
  show Is (double.nearest (decide (N < 0)) N.natAbs 0) _
  by_cases h0 : N = 0
  · subst h0
    have := is_zero_word false
    simpa [Format.nearest] using this
  · have h := write_whole (decide (N < 0)) N.natAbs 0 (by omega) (by omega) (by omega)
    rw [signed_EX _ _ N rfl rfl] at h
    simpa using h

theorem is_one : double.read 4607182418800017408 = .number false 4503599627370496 (-52) := by decide
theorem is_zero : Is 0 0 := is_zero_word false
theorem is_hi : Is 4845873199050653695 (9007199254740991 * (SC : Int)) := by
  have h : double.read 4845873199050653695 = .number false 9007199254740991 0 := by decide
  refine ⟨_, _, _, h, by omega, ?_⟩
  rw [← signed_EX false 9007199254740991 9007199254740991 (by decide) (by decide)]
  rfl
theorem is_lo : Is 14069245235905429503 (-9007199254740991 * (SC : Int)) := by
  have h : double.read 14069245235905429503 = .number true 9007199254740991 0 := by decide
  refine ⟨_, _, _, h, by omega, ?_⟩
  rw [← signed_EX true 9007199254740991 (-9007199254740991) (by decide) (by decide)]
  rfl

/-- A whole number and a whole step of one: the sum, written. -/
theorem sum_step {x : Nat} {N : Int} (hx : Is x (N * (SC : Int))) (t : Bool) (h1 : -9007199254740992 ≤ N + (if t then -1 else 1)) (h2 : N + (if t then -1 else 1) ≤ 9007199254740992) :
    ∃ d, (double.read x).sum (.number t 4503599627370496 (-52)) = some d ∧ Is (double.write d) ((N + (if t then -1 else 1)) * (SC : Int)) := by
  obtain ⟨s, m, i, hr, hi, hv⟩ := hx
  rw [hr]
  simp only [Datum.sum]
  refine ⟨_, rfl, ?_⟩
  generalize hu : (if t then (-1 : Int) else 1) = u at *
  have hE := EX_eq
  -- the total, told in units of 2^base
  have key : signed s m (i - min i (-52)).toNat + signed t 4503599627370496 (-52 - min i (-52)).toNat = (N + u) * ((2 ^ (-min i (-52)).toNat : Nat) : Int) := by
    have a1 : (i + 1074).toNat = (i - min i (-52)).toNat + (min i (-52) + 1074).toNat := by omega
    rw [a1, signed_mul] at hv
    have a2 : SC = 2 ^ (-min i (-52)).toNat * 2 ^ (min i (-52) + 1074).toNat := by
      unfold SC; rw [← Nat.pow_add]; congr 1; omega
    have a3 : signed t 4503599627370496 (-52 - min i (-52)).toNat = u * ((2 ^ (-min i (-52)).toNat : Nat) : Int) := by
      have e52 : (4503599627370496 : Nat) = 2 ^ 52 := by decide
      have a4 : (-min i (-52)).toNat = 52 + (-52 - min i (-52)).toNat := by omega
      rw [a4, Nat.pow_add, ← e52]
      unfold signed
      simp only [Nat.shiftLeft_eq]
      rw [← hu]
      cases t
      · simp only [Bool.false_eq_true, if_false, Int.one_mul]
      · simp only [if_true, Int.neg_mul, Int.one_mul]
    rw [a3, Int.add_mul]
    suffices hsuf : signed s m (i - min i (-52)).toNat = N * ((2 ^ (-min i (-52)).toNat : Nat) : Int) by rw [hsuf]
    rw [a2] at hv
    push_cast at hv
    rw [← Int.mul_assoc] at hv
    have hpos : ((2 : Int) ^ (min i (-52) + 1074).toNat) ≠ 0 := by
      have := Nat.two_pow_pos (min i (-52) + 1074).toNat
      have h' : ((2 ^ (min i (-52) + 1074).toNat : Nat) : Int) ≠ 0 := by omega
      simpa using h'
    have := Int.eq_of_mul_eq_mul_right hpos hv
    push_cast
    exact this.symm
  rw [key]
  generalize hB : (-min i (-52)).toNat = b
  have hbase : min i (-52) = -(b : Int) := by omega
  have hb : b ≤ 1074 := by omega
  have hpos : 0 < 2 ^ b := Nat.two_pow_pos b
  by_cases h0 : N + u = 0
  · rw [h0]
    have := is_zero_word (s && t)
    simpa [Format.write, Format.nearest] using this
  · have hne : (N + u) * ((2 ^ b : Nat) : Int) ≠ 0 := Int.mul_ne_zero h0 (by omega)
    rw [if_neg hne]
    have hsg : decide ((N + u) * ((2 ^ b : Nat) : Int) < 0) = decide (N + u < 0) := by
      have hp' : (0 : Int) < ((2 ^ b : Nat) : Int) := by omega
      by_cases hn : N + u < 0
      · rw [decide_eq_true hn, decide_eq_true (Int.mul_neg_of_neg_of_pos hn hp')]
      · rw [decide_eq_false hn, decide_eq_false (Int.not_lt.2 (Int.mul_nonneg (by omega) (by omega)))]
    have hab : ((N + u) * ((2 ^ b : Nat) : Int)).natAbs = (N + u).natAbs * 2 ^ b := by
      rw [Int.natAbs_mul, Int.natAbs_natCast]
    rw [hsg, hab, hbase]
    show Is (double.nearest _ _ _) _
    have h := write_whole (decide (N + u < 0)) (N + u).natAbs b (by omega) (by omega) hb
    rw [signed_EX _ _ (N + u) rfl rfl] at h
    exact h

theorem add_one {x : Nat} {N : Int} (hx : Is x (N * (SC : Int))) (h1 : -9007199254740993 ≤ N) (h2 : N ≤ 9007199254740991) :
    ∃ r, floatBits .add .f64 x 4607182418800017408 = some r ∧ Is r ((N + 1) * (SC : Int)) := by
  obtain ⟨d, hd, hi⟩ := sum_step hx false (by simp; omega) (by simp; omega)
  refine ⟨_, ?_, hi⟩
  show ((double.read x).sum (double.read 4607182418800017408)).map double.write = _
  rw [is_one, hd]
  rfl

theorem sub_one {x : Nat} {N : Int} (hx : Is x (N * (SC : Int))) (h1 : -9007199254740991 ≤ N) (h2 : N ≤ 9007199254740993) :
    ∃ r, floatBits .sub .f64 x 4607182418800017408 = some r ∧ Is r ((N - 1) * (SC : Int)) := by
  obtain ⟨d, hd, hi⟩ := sum_step hx true (by simp; omega) (by simp; omega)
  refine ⟨_, ?_, hi⟩
  show ((double.read x).sum (double.read 4607182418800017408).opposite).map double.write = _
  rw [is_one]
  show ((double.read x).sum (.number true 4503599627370496 (-52))).map double.write = _
  rw [hd]
  rfl

/-- The opposite word. -/
theorem is_neg {x : Nat} {V : Int} (hx : Is x V) : Is (Op.negFloat .f64 x) (-V) := by
  obtain ⟨s, m, i, hr, hi, rfl⟩ := hx
  have hsw : double.signWeight = 2 ^ 63 := by decide
  have e1 : Op.negFloat .f64 x / double.signWeight % 2 = 1 - x / double.signWeight % 2 := by
    have : Op.negFloat .f64 x = x ^^^ 2 ^ 63 := rfl
    rw [this, hsw, Nat.xor_div_two_pow, Nat.div_self (Nat.two_pow_pos _)]
    have h2 : (x / 2 ^ 63 ^^^ 1) % 2 = (x / 2 ^ 63 % 2 ^^^ 1 % 2) := Nat.xor_mod_two_pow (n := 1)
    rw [h2]
    have : x / 2 ^ 63 % 2 < 2 := Nat.mod_lt _ (by decide)
    match hq : x / 2 ^ 63 % 2, this with
    | 0, _ => rfl
    | 1, _ => rfl
  have e2 : Op.negFloat .f64 x % double.signWeight = x % double.signWeight := by
    have : Op.negFloat .f64 x = x ^^^ 2 ^ 63 := rfl
    rw [this, hsw, Nat.xor_mod_two_pow, Nat.mod_self, Nat.xor_zero]
  have hlt : x / double.signWeight % 2 < 2 := Nat.mod_lt _ (by decide)
  have hb : ((1 - x / double.signWeight % 2) == 1) = !(x / double.signWeight % 2 == 1) := by
    match hq : x / double.signWeight % 2, hlt with
    | 0, _ => rfl
    | 1, _ => rfl
  have hread : double.read (Op.negFloat .f64 x) = .number (!s) m i := by
    unfold Format.read at hr ⊢
    dsimp only at hr ⊢
    rw [e1, e2, hb]
    split at hr
    · rename_i hc
      rw [if_pos hc]
      cases hr
      rfl
    · rename_i hc
      rw [if_neg hc]
      split at hr
      · rename_i hc2
        rw [if_pos hc2]
        cases hr
        rfl
      · split at hr <;> cases hr
  refine ⟨_, _, _, hread, hi, ?_⟩
  unfold signed
  cases s <;> simp

end Go.Proofs.Qxb6616555a.Fl
