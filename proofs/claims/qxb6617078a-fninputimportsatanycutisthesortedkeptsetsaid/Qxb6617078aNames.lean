/-
  THE WALKS of zzHasPrefix, zzNames, zzNamed, zzAddBytes.
-/
import Derived.Test.Qxb6617078aKit
namespace Go.Proofs.Qxb6617078a
open Go.RowKit

theorem D_get (s : ByteArray) (k : Nat) (h : k < s.size) : (D s)[k]? = some s[k] := by
  have h' : k < (D s).length := by rw [D_len]; exact h
  rw [List.getElem?_eq_getElem h']
  rfl
theorem take_snoc (s : ByteArray) (k : Nat) (h : k < s.size) : (D s).take (k + 1) = (D s).take k ++ [s[k]] := by
  rw [List.take_add_one, D_get s k h]
  rfl
theorem pre_no {s p : ByteArray} {k : Nat} (h1 : k < s.size) (h2 : k < p.size) (h : ¬ s[k] = p[k]) : Lib.hasPrefix (D s) (D p) = false := by
  cases hp : Lib.hasPrefix (D s) (D p) with
  | false => rfl
  | true =>
    obtain ⟨r, hr⟩ := Pl.hasPrefix_iff.1 hp
    have e1 := D_get s k h1
    rw [← hr, List.getElem?_append_left (by rw [D_len]; exact h2), D_get p k h2] at e1
    exact absurd (Option.some.inj e1).symm h
theorem pre_short {s p : ByteArray} (h : s.size < p.size) : Lib.hasPrefix (D s) (D p) = false := by
  cases hp : Lib.hasPrefix (D s) (D p) with
  | false => rfl
  | true =>
    have := (Pl.hasPrefix_iff.1 hp).length_le
    rw [D_len, D_len] at this
    omega
theorem pre_yes {s p : ByteArray} (h : (D s).take p.size = (D p).take p.size) : Lib.hasPrefix (D s) (D p) = true := by
  rw [Pl.hasPrefix_iff]
  have e : (D p).take p.size = D p := by rw [← D_len]; exact List.take_length
  rw [e] at h
  rw [← h]
  exact List.take_prefix _ _

set_option maxHeartbeats 400000 in
theorem hasPrefix_any (s p : ByteArray) (w : World) (hs : s.size ≤ 9223372036854775807) :
    Calls Try.prog 30 #[.string s, .string p] w fun e w' => e = .returned (.bool (Lib.hasPrefix (D s) (D p))) ∧ ∃ q, w' = w.drewN q := by
  by_cases hlen : s.size < p.size
  · rw [pre_short hlen]
    go_enter Try.func30, Try.ntmps30
    go_wp2
    go_ret
    exact ⟨rfl, 0, rfl⟩
  · go_enter Try.func30, Try.ntmps30
    go_wp2
    go_loopw [5] (fun i wr => ∃ (k q : Nat), k ≤ p.size ∧ i = .int .i64 k ∧ wr = w.drewN q ∧ (D s).take k = (D p).take k) (fun i _ => p.size - (intOf i).toNat)
    case atStart => exact ⟨0, 0, Nat.zero_le _, rfl, rfl, rfl⟩
    case round =>
      obtain ⟨k, q, hk, rfl, rfl, hf⟩ := hrel
      have HF := hidP hf
      clear hf
      by_cases hlt : k < p.size
      · have h0 : (0 : Int) ≤ (k : Int) := by omega
        have h1 : (k : Int) < (p.size : Int) := by omega
        have h2 : (k : Int) < (s.size : Int) := by omega
        have hks : k < s.size := by omega
        by_cases hb : s[k] = p[k]
        · have hb' : (((s[k].toNat : Nat) : Int) != ((p[k].toNat : Nat) : Int)) = false := by rw [hb]; simp
          have HB := hidP hb
          clear hb
          go_wp2
          go_quiet (fail)
          go_wp2
          go_roundw
          case rel => exact ⟨k + 1, q + nq, by omega, by go_num, rfl, by rw [take_snoc s k hks, take_snoc p k hlt, HF.out, HB.out]⟩
          case measure => simp [intOf]; omega
        · have hb' : (((s[k].toNat : Nat) : Int) != ((p[k].toNat : Nat) : Int)) = true := by
            rw [bne_iff_ne]
            intro e
            exact hb (UInt8.toNat_inj.1 (by omega))
          have HB := hidP hb
          clear hb
          go_wp2
          go_quiet (fail)
          go_wp2
          go_ret
          refine ⟨?_, q + nq, by simp⟩
          rw [pre_no hks hlt HB.out]
          rfl
      · go_wp2
        go_ret
        refine ⟨?_, _, rfl⟩
        have hkp : k = p.size := by omega
        rw [pre_yes (hkp ▸ HF.out)]
        rfl

/-! ### zzNames -/
theorem star_last (e : ByteArray) (h : 0 < e.size) : Pl.star (D e) = (e[e.size - 1] == (42 : UInt8)) := by
  unfold Pl.star
  rw [← Lib.hasSuffix_of_drop]
  have hd : (D e).drop ((D e).length - [(42 : UInt8)].length) = [e[e.size - 1]] := by
    rw [D_len]
    show (D e).drop (e.size - 1) = _
    have h1 := D_get e (e.size - 1) (by omega)
    rw [List.drop_eq_getElem_cons (by rw [D_len]; omega)]
    rw [List.getElem?_eq_getElem (by rw [D_len]; omega)] at h1
    rw [Option.some.inj h1]
    rw [List.drop_of_length_le (by rw [D_len]; omega)]
  rw [hd, D_len]
  have : decide ([(42 : UInt8)].length ≤ e.size) = true := by simp; omega
  rw [this]
  simp
theorem star_nil (e : ByteArray) (h : e.size = 0) : Pl.star (D e) = false := by
  have : D e = [] := List.length_eq_zero_iff.1 (by rw [D_len]; exact h)
  rw [this]
  rfl
theorem D_cut (e : ByteArray) (k : Nat) : D (e.extract 0 k) = (D e).take k := by
  unfold D
  rw [Lib.extract_data]
  simp

set_option maxHeartbeats 400000 in
theorem names_any (e p : ByteArray) (w : World) (he : e.size ≤ 9223372036854775807) (hp : p.size ≤ 9223372036854775807) :
    Calls Try.prog 22 #[.string e, .string p] w fun en w' => en = .returned (.bool (Pl.names (D e) (D p))) ∧ ∃ q, w' = w.drewN q := by
  by_cases hep : e = p
  · subst hep
    have hn : Pl.names (D e) (D e) = true := by simp [Pl.names]
    rw [hn]
    go_enter Try.func22, Try.ntmps22
    go_wp2
    go_ret
    exact ⟨rfl, 0, rfl⟩
  · have hne : ((D e) == (D p)) = false := by simpa using fun h => hep (D_inj h)
    have hl := list_ne hep
    by_cases h0 : e.size = 0
    · have hn : Pl.names (D e) (D p) = false := by simp [Pl.names, hne, star_nil e h0]
      rw [hn]
      have hd : decide ((0 : Int) < (e.size : Int)) = false := decide_eq_false (by omega)
      go_enter Try.func22, Try.ntmps22
      go_wp2
      go_ret
      exact ⟨rfl, 0, rfl⟩
    · have hpos : 0 < e.size := by omega
      have hd : (0 : Int) < (e.size : Int) := by omega
      by_cases hst : e[e.size - 1] = 42
      · have hb : (((e[e.size - 1].toNat : Nat) : Int) == 42) = true := by rw [hst]; rfl
        have hn : Pl.names (D e) (D p) = Lib.hasPrefix (D p) (D (e.extract 0 (e.size - 1))) := by
          rw [D_cut, ← D_len]
          have : Pl.star (D e) = true := by rw [star_last e hpos, hst]; rfl
          simp [Pl.names, hne, this]
        rw [hn]
        clear hst hn hne
        go_enter Try.func22, Try.ntmps22
        go_wp2_with fail
        refine (hasPrefix_any _ _ _ hp).mono ?_
        rintro en w1 ⟨rfl, q, rfl⟩
        go_wp2_with fail
        go_ret
        exact ⟨rfl, q, rfl⟩
      · have hb : (((e[e.size - 1].toNat : Nat) : Int) == 42) = false := by
          rw [beq_eq_false_iff_ne]
          intro h
          exact hst (UInt8.toNat_inj.1 (by have : (42 : UInt8).toNat = 42 := rfl; omega))
        have hn : Pl.names (D e) (D p) = false := by
          have : Pl.star (D e) = false := by rw [star_last e hpos]; simpa using hst
          simp [Pl.names, hne, this]
        rw [hn]
        clear hst hn hne
        go_enter Try.func22, Try.ntmps22
        go_wp2_with fail
        go_ret
        exact ⟨rfl, 0, rfl⟩

/-! ### zzNamed -/
def named (ig : List ByteArray) (p : ByteArray) : Bool := Pl.named (ig.map D) (D p)

theorem named_take {ig : List ByteArray} {p e : ByteArray} {k : Nat} (h : ig[k]? = some e) : Pl.named ((ig.take (k + 1)).map D) (D p) = (Pl.named ((ig.take k).map D) (D p) || Pl.names (D e) (D p)) := by
  rw [List.take_add_one, h]
  simp [Pl.named, List.any_append]
theorem named_true {ig : List ByteArray} {p e : ByteArray} {k : Nat} (h : ig[k]? = some e) (hn : Pl.names (D e) (D p) = true) : named ig p = true := by
  unfold named Pl.named
  rw [List.any_eq_true]
  exact ⟨D e, List.mem_map.2 ⟨e, List.mem_of_getElem? h, rfl⟩, hn⟩

set_option maxHeartbeats 400000 in
theorem named_any {w : World} {v : Value} {ig : List ByteArray} (h : Row w v ig) (p : ByteArray) (hp : p.size ≤ 9223372036854775807) (hl : ig.length ≤ 9223372036854775807) (hs : ∀ (j : Nat) s, ig[j]? = some s → s.size ≤ 9223372036854775807) :
    Calls Try.prog 20 #[v, .string p] w fun e w' => e = .returned (.bool (named ig p)) ∧ ∃ q, w' = w.drewN q := by
  obtain ⟨a, cap, rfl, hc⟩ := h
  have HC := hidP hc
  have HS := hidP hs
  clear hc hs
  generalize hn : ig.length = n at *
  have HN := hidP hn
  clear hn
  go_enter Try.func20, Try.ntmps20
  go_wp2_with fail
  go_loopw [5] (fun i wr => ∃ (k q : Nat), k ≤ n ∧ i = .int .i64 k ∧ wr = w.drewN q ∧ Pl.named ((ig.take k).map D) (D p) = false) (fun i _ => n - (intOf i).toNat)
  case atStart => exact ⟨0, 0, Nat.zero_le _, rfl, rfl, rfl⟩
  case round =>
    obtain ⟨k, q, hk, rfl, rfl, hf⟩ := hrel
    have HF := hidP hf
    clear hf
    by_cases hlt : k < n
    · obtain ⟨e, he⟩ : ∃ e, ig[k]? = some e := ⟨ig[k]'(by rw [HN.out]; exact hlt), by rw [List.getElem?_eq_getElem]⟩
      obtain ⟨b, off, rfl, hck⟩ := HC.out k e he
      have hse := HS.out k e he
      have HE := hidP he
      clear he
      go_wp2_with fail
      refine (names_any _ _ _ hse hp).mono ?_
      rintro en w1 ⟨rfl, q1, rfl⟩
      cases hnm : Pl.names (D e) (D p) with
      | true =>
        have HM := hidP hnm
        clear hnm
        go_wp2_with fail
        go_ret
        refine ⟨?_, q + q1, by simp⟩
        rw [named_true HE.out HM.out]
        rfl
      | false =>
        have HM := hidP hnm
        clear hnm
        go_wp2_with fail
        go_roundw
        case rel => exact ⟨k + 1, q + q1, by omega, by go_num, by simp, by rw [named_take HE.out, HF.out, HM.out]; rfl⟩
        case measure => simp [intOf]; omega
    · go_wp2_with fail
      go_ret
      refine ⟨?_, q, rfl⟩
      have hkn : ig.take k = ig := List.take_of_length_le (by rw [HN.out]; omega)
      have := HF.out
      rw [hkn] at this
      unfold named
      rw [this]
      rfl
/-! ### zzAddBytes -/
/-- A number comes back, not negative and not great. -/
def Num (e : Ending) : Prop := ∃ t : Int, e = .returned (.int .i64 t) ∧ 0 ≤ t ∧ t ≤ 16777216

set_option maxHeartbeats 400000 in
theorem add_any {w : World} {v : Value} {xs : List ByteArray} (h : Row w v xs) (hsm : Small xs) (t0 : Int) (h0 : 0 ≤ t0) (h1 : t0 ≤ 1048576) :
    Calls Try.prog 8 #[.int .i64 t0, v] w fun e w' => Num e ∧ w' = w := by
  obtain ⟨a, cap, rfl, hc⟩ := h
  obtain ⟨hl, hs⟩ := hsm
  have HC := hidP hc
  have HS := hidP hs
  clear hc hs
  generalize hn : xs.length = n at *
  have HN := hidP hn
  clear hn
  by_cases hb : 1048576 < t0 + 8 * n
  · go_enter Try.func8, Try.ntmps8
    go_wp2_with fail
    go_ret
    exact ⟨⟨t0 + 8 * n, rfl, by omega, by omega⟩, rfl⟩
  go_enter Try.func8, Try.ntmps8
  go_wp2_with fail
  go_loop [0, 5] (fun z i => ∃ (k : Nat) (t : Int), k ≤ n ∧ i = .int .i64 k ∧ z = .int .i64 t ∧ 0 ≤ t ∧ t ≤ 1048576) (fun _ i => n - (intOf i).toNat)
  case atStart => exact ⟨0, t0 + 8 * n, Nat.zero_le _, rfl, by simp, by omega, by omega⟩
  case round =>
    obtain ⟨k, t, hk, rfl, rfl, ht0, ht1⟩ := hrel
    by_cases hlt : k < n
    · obtain ⟨y, hy⟩ : ∃ y, xs[k]? = some y := ⟨xs[k]'(by rw [HN.out]; exact hlt), by rw [List.getElem?_eq_getElem]⟩
      obtain ⟨b, off, rfl, hck⟩ := HC.out k y hy
      have hsx := HS.out k y hy
      clear hy
      by_cases h2 : 1048576 < t + y.size
      · go_wp2_with fail
        go_ret
        exact ⟨⟨t + y.size, rfl, by omega, by omega⟩, rfl⟩
      · go_wp2_with fail
        go_round
        case rel => exact ⟨k + 1, t + y.size, by omega, by go_num, rfl, by omega, by omega⟩
        case measure => simp [intOf]; omega
    · go_wp2_with fail
      go_ret
      exact ⟨⟨t, rfl, by omega, by omega⟩, rfl⟩

end Go.Proofs.Qxb6617078a
