/-
  THE WALKS of zzEqual (10), zzIncreasing (12), zzAllHit (14), zzIndex (26).
-/
import Derived.Test.Qxb6617078aInput0
namespace Go.Proofs.Qxb6617078a
open Go.RowKit

theorem list_eq (a : ByteArray) : (a.toList == a.toList) = true := by simp

set_option maxHeartbeats 400000 in
theorem equal_any {w : World} {v1 v2 : Value} {O : List ByteArray} (h1 : Row w v1 O) (h2 : Row w v2 O) (hl : O.length ≤ 9223372036854775807) :
    Calls Try.prog 10 #[v1, v2] w fun e w' => e = .returned (.bool true) ∧ ∃ q, w' = w.drewN q := by
  obtain ⟨a1, c1, rfl, hc1⟩ := h1
  obtain ⟨a2, c2, rfl, hc2⟩ := h2
  have H1 := hidP hc1
  have H2 := hidP hc2
  clear hc1 hc2
  generalize hn : O.length = n at *
  have HN := hidP hn
  clear hn
  go_enter Try.func10, Try.ntmps10
  go_wp2
  go_loopw [5] (fun i wr => ∃ (k q : Nat), k ≤ n ∧ i = .int .i64 k ∧ wr = w.drewN q) (fun i _ => n - (intOf i).toNat)
  case atStart => exact ⟨0, 0, Nat.zero_le _, rfl, rfl⟩
  case round =>
    obtain ⟨k, q, hk, rfl, rfl⟩ := hrel
    by_cases hlt : k < n
    · obtain ⟨p, hp⟩ : ∃ p, O[k]? = some p := ⟨O[k]'(by rw [HN.out]; exact hlt), by rw [List.getElem?_eq_getElem]⟩
      obtain ⟨b1, o1, rfl, hk1⟩ := H1.out k p hp
      obtain ⟨b2, o2, rfl, hk2⟩ := H2.out k p hp
      have h0 : (0 : Int) ≤ (k : Int) := by omega
      have h1 : (k : Int) < (n : Int) := by omega
      clear hp
      go_wp2
      go_quiet (fail)
      go_wp2
      go_roundw
      case rel => exact ⟨k + 1, q + nq, by omega, by go_num, rfl⟩
      case measure => simp [intOf]; omega
    · go_wp2
      go_ret
      exact ⟨rfl, _, rfl⟩

set_option maxHeartbeats 400000 in
theorem rising_any {w : World} {v : Value} {O : List ByteArray} (h1 : Row w v O) (hs : Pl.Strict (O.map D)) (hl : O.length ≤ 9223372036854775806) :
    Calls Try.prog 12 #[v] w fun e w' => e = .returned (.bool true) ∧ ∃ q, w' = w.drewN q := by
  obtain ⟨a1, c1, rfl, hc1⟩ := h1
  have H1 := hidP hc1
  have HS : Hid (∀ (i : Nat) x y, O[i]? = some x → O[i + 1]? = some y → Op.bytesLess x.toList y.toList = true) := by
    intro i x y hx hy
    rw [less_eq]
    have hpw := List.pairwise_iff_getElem.1 hs
    have hil := getElem?_lt hx
    have hjl := getElem?_lt hy
    have := hpw i (i + 1) (by simpa using hil) (by simpa using hjl) (by omega)
    rw [List.getElem_map, List.getElem_map] at this
    rw [List.getElem?_eq_getElem hil] at hx
    rw [List.getElem?_eq_getElem hjl] at hy
    rw [Option.some.inj hx, Option.some.inj hy] at this
    exact decide_eq_true this
  clear hc1 hs
  generalize hn : O.length = n at *
  have HN := hidP hn
  clear hn
  go_enter Try.func12, Try.ntmps12
  go_wp2
  go_loopw [3] (fun i wr => ∃ (k q : Nat), k ≤ n ∧ i = .int .i64 (k + 1 : Nat) ∧ wr = w.drewN q) (fun i _ => n + 1 - (intOf i).toNat)
  case atStart => exact ⟨0, 0, Nat.zero_le _, rfl, rfl⟩
  case round =>
    obtain ⟨k, q, hk, rfl, rfl⟩ := hrel
    by_cases hlt : k + 1 < n
    · obtain ⟨x, hx⟩ : ∃ p, O[k]? = some p := ⟨O[k]'(by rw [HN.out]; omega), by rw [List.getElem?_eq_getElem]⟩
      obtain ⟨y, hy⟩ : ∃ p, O[k + 1]? = some p := ⟨O[k + 1]'(by rw [HN.out]; exact hlt), by rw [List.getElem?_eq_getElem]⟩
      have hless := HS.out k x y hx hy
      obtain ⟨b1, o1, rfl, hk1⟩ := H1.out k x hx
      obtain ⟨b2, o2, hb, hk2⟩ := H1.out (k + 1) y hy
      cases hb
      have h0 : (0 : Int) ≤ (k : Int) + 1 := by omega
      have h1 : (k : Int) + 1 < (n : Int) := by omega
      have h2 : (0 : Int) ≤ (k : Int) := by omega
      have h3 : (k : Int) < (n : Int) := by omega
      clear hx hy
      go_wp2
      go_quiet (fail)
      go_wp2
      go_roundw
      case rel => exact ⟨k + 1, q + nq, by omega, by go_num, rfl⟩
      case measure => simp [intOf]; omega
    · go_wp2
      go_ret
      exact ⟨rfl, _, rfl⟩

/-- The marks: n bools from the block's start. -/
def Marks (w : World) (hb : Nat) (h : Nat → Bool) (n : Nat) : Prop := ∀ j, j < n → w.cell? ⟨hb, j, none⟩ = some (.bool (h j)) ∧ w.frozen? ⟨hb, j, none⟩ = false

set_option maxHeartbeats 400000 in
theorem allHit_any {w : World} {hb n cap : Nat} {h : Nat → Bool} (hm : Marks w hb h n) (hall : ∀ j, j < n → h j = true) (hl : n ≤ 9223372036854775807) :
    Calls Try.prog 14 #[.slice (some ⟨hb, 0, none⟩) n cap] w fun e w' => e = .returned (.bool true) ∧ w' = w := by
  have H1 : Hid (∀ j, j < n → w.cell? ⟨hb, j, none⟩ = some (.bool true)) := fun j hj => by rw [(hm j hj).1, hall j hj]
  clear hm hall
  go_enter Try.func14, Try.ntmps14
  go_wp2
  go_loop [3] (fun i => ∃ (k : Nat), k ≤ n ∧ i = .int .i64 k) (fun i => n - (intOf i).toNat)
  case atStart => exact ⟨0, Nat.zero_le _, rfl⟩
  case round =>
    obtain ⟨k, hk, rfl⟩ := hrel
    by_cases hlt : k < n
    · have hk1 := H1.out k hlt
      go_wp2
      go_round
      case rel => exact ⟨k + 1, by omega, by go_num⟩
      case measure => simp [intOf]; omega
    · go_wp2
      go_ret
      exact ⟨rfl, rfl⟩

/-- Where p stands in O, or -1. -/
def Idx (O : List ByteArray) (p : ByteArray) (e : Ending) : Prop := ∃ r : Int, e = .returned (.int .i64 r) ∧ ((∃ k : Nat, r = k ∧ O[k]? = some p) ∨ (r = -1 ∧ p ∉ O))

theorem idx_no {O : List ByteArray} {p : ByteArray} {l : Nat} (h1 : ∀ (i : Nat) t, i < l → O[i]? = some t → D t < D p) (h2 : ∀ (i : Nat) t, l ≤ i → O[i]? = some t → ¬ D t < D p) (hs : Pl.Strict (O.map D)) (hne : O[l]? ≠ some p) : p ∉ O := by
  intro hp
  obtain ⟨i, hi⟩ := List.mem_iff_getElem?.1 hp
  rcases Nat.lt_trichotomy i l with h | h | h
  · exact absurd (h1 i p h hi) (Pl.lt_irrefl _)
  · subst h; exact hne hi
  · have hil := getElem?_lt hi
    have hll : l < O.length := by omega
    have hl : O[l]? = some (O[l]'hll) := List.getElem?_eq_getElem hll
    have hpw := List.pairwise_iff_getElem.1 hs
    have := hpw l i (by simpa using hll) (by simpa using hil) h
    rw [List.getElem_map, List.getElem_map] at this
    rw [List.getElem?_eq_getElem hil] at hi
    rw [Option.some.inj hi] at this
    exact h2 l _ (Nat.le_refl _) hl this

/-- In a rising row all before one that is less are less. -/
theorem idx_below {O : List ByteArray} {p t : ByteArray} {m : Nat} (hs : Pl.Strict (O.map D)) (hm : O[m]? = some t) (h : D t < D p) (i : Nat) (u : ByteArray) (hi : i < m + 1) (hu : O[i]? = some u) : D u < D p := by
  by_cases e : i = m
  · subst e; rw [hu] at hm; rw [Option.some.inj hm]; exact h
  · have hml := getElem?_lt hm
    have hil := getElem?_lt hu
    have hpw := List.pairwise_iff_getElem.1 hs
    have := hpw i m (by simpa using hil) (by simpa using hml) (by omega)
    rw [List.getElem_map, List.getElem_map] at this
    rw [List.getElem?_eq_getElem hil] at hu
    rw [List.getElem?_eq_getElem hml] at hm
    rw [Option.some.inj hu, Option.some.inj hm] at this
    exact Pl.lt_trans this h
theorem idx_above {O : List ByteArray} {p t : ByteArray} {m : Nat} (hs : Pl.Strict (O.map D)) (hm : O[m]? = some t) (h : ¬ D t < D p) (i : Nat) (u : ByteArray) (hi : m ≤ i) (hu : O[i]? = some u) : ¬ D u < D p := by
  by_cases e : i = m
  · subst e; rw [hu] at hm; rw [Option.some.inj hm]; exact h
  · intro hlt
    refine h (idx_below hs hu hlt m t (by omega) hm)

set_option maxHeartbeats 1000000 in
theorem index_any {w : World} {v : Value} {O : List ByteArray} (p : ByteArray) (h1 : Row w v O) (hs : Pl.Strict (O.map D)) (hl : O.length ≤ 4611686018427387904) :
    Calls Try.prog 26 #[v, .string p] w fun e w' => Idx O p e ∧ w' = w := by
  obtain ⟨a1, c1, rfl, hc1⟩ := h1
  have H1 := hidP hc1
  have HS := hidP hs
  clear hc1 hs
  generalize hn : O.length = n at *
  have HN := hidP hn
  clear hn
  go_enter Try.func26, Try.ntmps26
  go_wp2
  go_loop [5, 6] (fun lo hi => ∃ (l h : Nat), l ≤ h ∧ h ≤ n ∧ lo = .int .i64 l ∧ hi = .int .i64 h ∧ (∀ (i : Nat) t, i < l → O[i]? = some t → D t < D p) ∧ (∀ (i : Nat) t, h ≤ i → O[i]? = some t → ¬ D t < D p)) (fun lo hi => (intOf hi).toNat - (intOf lo).toNat)
  case atStart => exact ⟨0, n, Nat.zero_le _, Nat.le_refl _, rfl, rfl, fun i t h => absurd h (Nat.not_lt_zero _), fun i t h1 h2 => absurd (getElem?_lt h2) (by rw [HN.out]; omega)⟩
  case round =>
    obtain ⟨l, h, hlh, hhn, rfl, rfl, ha, hb⟩ := hrel
    have HA := hidP ha
    have HB := hidP hb
    clear ha hb
    by_cases hlt : l < h
    · obtain ⟨m, hm⟩ : ∃ m : Nat, m = l + (h - l) / 2 := ⟨_, rfl⟩
      have hm1 : l ≤ m := by omega
      have hm2 : m < h := by omega
      have hmi : (l : Int) + ((h : Int) - (l : Int)).tdiv 2 = (m : Int) := by
        rw [Int.tdiv_eq_ediv_of_nonneg (by omega)]
        omega
      obtain ⟨t, ht⟩ : ∃ t, O[m]? = some t := ⟨O[m]'(by rw [HN.out]; omega), by rw [List.getElem?_eq_getElem]⟩
      obtain ⟨b1, o1, rfl, hk1⟩ := H1.out m t ht
      have HT := hidP ht
      clear hm ht
      by_cases hc : D t < D p
      · have hless : Op.bytesLess t.toList p.toList = true := by rw [less_eq]; exact decide_eq_true hc
        have HCC := hidP hc
        clear hc
        go_wp2
        go_round
        case rel => exact ⟨m + 1, h, by omega, hhn, by go_num, rfl, idx_below HS.out HT.out HCC.out, HB.out⟩
        case measure => simp [intOf]; omega
      · have hless : Op.bytesLess t.toList p.toList = false := by rw [less_eq]; exact decide_eq_false hc
        have HCC := hidP hc
        clear hc
        go_wp2
        go_round
        case rel => exact ⟨l, m, hm1, by omega, rfl, by go_num, HA.out, idx_above HS.out HT.out HCC.out⟩
        case measure => simp [intOf]; omega
    · have he : l = h := by omega
      subst he
      clear hlt
      by_cases hln : l < n
      · obtain ⟨t, ht⟩ : ∃ t, O[l]? = some t := ⟨O[l]'(by rw [HN.out]; omega), by rw [List.getElem?_eq_getElem]⟩
        obtain ⟨b1, o1, rfl, hk1⟩ := H1.out l t ht
        have HT := hidP ht
        have hd : decide ((l : Int) < (n : Int)) = true := decide_eq_true (by omega)
        have hd2 : (l : Int) < (n : Int) := by omega
        clear ht
        by_cases hc : t = p
        · subst hc
          go_wp2
          go_ret
          exact ⟨⟨_, rfl, .inl ⟨l, rfl, HT.out⟩⟩, rfl⟩
        · have hne := list_ne hc
          have HCC := hidP hc
          clear hc
          go_wp2
          go_ret
          exact ⟨⟨_, rfl, .inr ⟨rfl, idx_no HA.out HB.out HS.out (fun e => HCC.out (Option.some.inj (HT.out.symm.trans e)))⟩⟩, rfl⟩
      · have hd : decide ((l : Int) < (n : Int)) = false := decide_eq_false (by omega)
        go_wp2
        go_ret
        exact ⟨⟨_, rfl, .inr ⟨rfl, idx_no HA.out HB.out HS.out (fun e => absurd (getElem?_lt e) (by rw [HN.out]; exact hln))⟩⟩, rfl⟩
end Go.Proofs.Qxb6617078a
