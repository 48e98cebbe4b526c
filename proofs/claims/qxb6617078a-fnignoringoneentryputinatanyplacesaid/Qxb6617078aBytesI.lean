/-
  THE WALKS of the bounds' tests of the two laws on Ignoring: zzBytes (18), zzBytes (21).
-/
import Derived.Test.Qxb6617078aKit
namespace Go.Proofs.Qxb6617078a
open Go.RowKit

def SmallX (ids : List ByteArray) (x : ByteArray) : Prop := Small ids ∧ x.size ≤ 1048576
def SmallXY (ids : List ByteArray) (x y : ByteArray) : Prop := Small ids ∧ x.size ≤ 1048576 ∧ y.size ≤ 1048576

set_option maxHeartbeats 1000000 in
theorem bytes18 {w : World} {v : Value} {ds : List ByteArray} {y : ByteArray} (h : Row w v ds) (hl : ds.length ≤ 9223372036854775807) (hy : y.size ≤ 9223372036854775807) (hs : ∀ (i : Nat) t, ds[i]? = some t → t.size ≤ 9223372036854775807) :
    Calls Try.prog 18 #[v, .string y] w fun e w' => Says (SmallX ds y) e ∧ w' = w := by
  obtain ⟨a, cap, rfl, hc⟩ := h
  have HC := hidP hc
  have HS := hidP hs
  clear hc hs
  generalize hn : ds.length = n at *
  have HN := hidP hn
  clear hn
  by_cases hb : 1048576 < n
  · go_enter Try.func18, Try.ntmps18
    go_wp2_with fail
    go_ret
    exact ⟨⟨false, rfl, by intro e; cases e⟩, rfl⟩
  have hb' : n ≤ 1048576 := by omega
  clear hb
  go_enter Try.func18, Try.ntmps18
  go_wp2_with fail
  go_loop [5, 6] (fun z i => ∃ (k : Nat) (t : Int), k ≤ n ∧ i = .int .i64 k ∧ z = .int .i64 t ∧ 0 ≤ t ∧ t ≤ 1048576 ∧ ∀ (j : Nat), j < k → ∀ s, ds[j]? = some s → s.size ≤ 1048576) (fun _ i => n - (intOf i).toNat)
  case atStart => exact ⟨0, n, Nat.zero_le _, rfl, by simp, by omega, by omega, by intro j hj; omega⟩
  case round =>
    obtain ⟨k, t, hk, rfl, rfl, ht0, ht1, hf⟩ := hrel
    have HF := hidP hf
    clear hf
    by_cases hlt : k < n
    · obtain ⟨x, hx⟩ : ∃ x, ds[k]? = some x := ⟨ds[k]'(by rw [HN.out]; exact hlt), by rw [List.getElem?_eq_getElem]⟩
      obtain ⟨b, off, rfl, hck⟩ := HC.out k x hx
      have hsx := HS.out k x hx
      have HX := hidP hx
      clear hx
      by_cases h1 : 1048576 < x.size
      · go_wp2_with fail
        go_ret
        exact ⟨⟨false, rfl, by intro e; cases e⟩, rfl⟩
      · have h1' : x.size ≤ 1048576 := by omega
        clear h1 hsx
        by_cases h2 : 1048576 < t + x.size
        · go_wp2_with fail
          go_ret
          exact ⟨⟨false, rfl, by intro e; cases e⟩, rfl⟩
        · go_wp2_with fail
          go_round
          case rel =>
            refine ⟨k + 1, t + x.size, by omega, by go_num, rfl, by omega, by omega, fun j hj s hjs => ?_⟩
            by_cases hjk : j = k
            · subst hjk; rw [HX.out] at hjs; cases hjs; exact h1'
            · exact HF.out j (by omega) s hjs
          case measure => simp [intOf]; omega
    · by_cases h1 : 1048576 < y.size
      · go_wp2_with fail
        go_ret
        exact ⟨⟨false, rfl, by intro e; cases e⟩, rfl⟩
      · have h1' : y.size ≤ 1048576 := by omega
        clear h1 hy
        by_cases h2 : 1048576 < t + y.size
        · go_wp2_with fail
          go_ret
          exact ⟨⟨false, rfl, by intro e; cases e⟩, rfl⟩
        · go_wp2_with fail
          go_ret
          refine ⟨⟨true, rfl, fun _ => ⟨⟨by rw [HN.out]; exact hb', fun j s hjs => ?_⟩, h1'⟩⟩, rfl⟩
          exact HF.out j (by have := HN.out; have := getElem?_lt hjs; omega) s hjs

set_option maxHeartbeats 1000000 in
theorem bytes21 {w : World} {v : Value} {ds : List ByteArray} {at0 : Int} {y z : ByteArray} (h : Row w v ds) (hl : ds.length ≤ 9223372036854775807) (hy : y.size ≤ 9223372036854775807) (hz : z.size ≤ 9223372036854775807) (hs : ∀ (i : Nat) t, ds[i]? = some t → t.size ≤ 9223372036854775807) :
    Calls Try.prog 21 #[v, .int .i64 at0, .string y, .string z] w fun e w' => Says (SmallXY ds y z) e ∧ w' = w := by
  obtain ⟨a, cap, rfl, hc⟩ := h
  have HC := hidP hc
  have HS := hidP hs
  clear hc hs
  generalize hn : ds.length = n at *
  have HN := hidP hn
  clear hn
  by_cases hb : 1048576 < n
  · go_enter Try.func21, Try.ntmps21
    go_wp2_with fail
    go_ret
    exact ⟨⟨false, rfl, by intro e; cases e⟩, rfl⟩
  have hb' : n ≤ 1048576 := by omega
  clear hb
  go_enter Try.func21, Try.ntmps21
  go_wp2_with fail
  go_loop [9, 10] (fun z i => ∃ (k : Nat) (t : Int), k ≤ n ∧ i = .int .i64 k ∧ z = .int .i64 t ∧ 0 ≤ t ∧ t ≤ 1048576 ∧ ∀ (j : Nat), j < k → ∀ s, ds[j]? = some s → s.size ≤ 1048576) (fun _ i => n - (intOf i).toNat)
  case atStart => exact ⟨0, n, Nat.zero_le _, rfl, by simp, by omega, by omega, by intro j hj; omega⟩
  case round =>
    obtain ⟨k, t, hk, rfl, rfl, ht0, ht1, hf⟩ := hrel
    have HF := hidP hf
    clear hf
    by_cases hlt : k < n
    · obtain ⟨x, hx⟩ : ∃ x, ds[k]? = some x := ⟨ds[k]'(by rw [HN.out]; exact hlt), by rw [List.getElem?_eq_getElem]⟩
      obtain ⟨b, off, rfl, hck⟩ := HC.out k x hx
      have hsx := HS.out k x hx
      have HX := hidP hx
      clear hx
      by_cases h1 : 1048576 < x.size
      · go_wp2_with fail
        go_ret
        exact ⟨⟨false, rfl, by intro e; cases e⟩, rfl⟩
      · have h1' : x.size ≤ 1048576 := by omega
        clear h1 hsx
        by_cases h2 : 1048576 < t + x.size
        · go_wp2_with fail
          go_ret
          exact ⟨⟨false, rfl, by intro e; cases e⟩, rfl⟩
        · go_wp2_with fail
          go_round
          case rel =>
            refine ⟨k + 1, t + x.size, by omega, by go_num, rfl, by omega, by omega, fun j hj s hjs => ?_⟩
            by_cases hjk : j = k
            · subst hjk; rw [HX.out] at hjs; cases hjs; exact h1'
            · exact HF.out j (by omega) s hjs
          case measure => simp [intOf]; omega
    · by_cases h1 : 1048576 < y.size
      · go_wp2_with fail
        go_ret
        exact ⟨⟨false, rfl, by intro e; cases e⟩, rfl⟩
      · have h1' : y.size ≤ 1048576 := by omega
        clear h1 hy
        by_cases h2 : 1048576 < t + y.size
        · go_wp2_with fail
          go_ret
          exact ⟨⟨false, rfl, by intro e; cases e⟩, rfl⟩
        · by_cases h3 : 1048576 < z.size
          · go_wp2_with fail
            go_ret
            exact ⟨⟨false, rfl, by intro e; cases e⟩, rfl⟩
          · have h3' : z.size ≤ 1048576 := by omega
            clear h3 hz
            by_cases h4 : 1048576 < t + y.size + z.size
            · go_wp2_with fail
              go_ret
              exact ⟨⟨false, rfl, by intro e; cases e⟩, rfl⟩
            · go_wp2_with fail
              go_ret
              refine ⟨⟨true, rfl, fun _ => ⟨⟨by rw [HN.out]; exact hb', fun j s hjs => ?_⟩, h1', h3'⟩⟩, rfl⟩
              exact HF.out j (by have := HN.out; have := getElem?_lt hjs; omega) s hjs

end Go.Proofs.Qxb6617078a
